import PyProof.Rows.All
import Wide.All
import OpenK.AllK
import Wide.FinOn
import KE.KLam
import KE.KLcTest
import KE.KSortTup
import PySem.Challenge.RW_in0189_01
set_option Elab.async false

namespace Mine
open PySem PySem.W PyProof.Rows
set_option maxRecDepth 100000 in
set_option maxHeartbeats 8000000 in
open_top hd for PySem.Challenge.rw_in0189_01
end Mine

namespace Mine
open PySem PySem.W PyProof.Rows PySem.Calls
set_option maxRecDepth 100000

abbrev PG : Program := PySem.Challenge.rw_in0189_01.row.prog


structure Gnd (w : World) (H : Heap) : Prop where
  X : (hd.heap_39 w.params).In H
  T : ∃ p loose mean mg mb, Top p loose mean mg mb H

structure Arnd (A : Around) (d : Nat) : Prop where
  hh : A.handled = none
  dep : A.depth + d < recursionLimit
  uni : A.units + 8 * d < cLine

theorem Arnd.deeper {A : Around} {d : Nat} {env : Env} (h : Arnd A (d + 1)) : Arnd (A.deeper env) d :=
  ⟨h.hh, by have := h.dep; show A.depth + 1 + d < _; omega, by have := h.uni; show A.units + 3 + 8 * d < _; omega⟩
theorem Arnd.less {A : Around} {d e : Nat} (h : Arnd A d) (he : e ≤ d) : Arnd A e := ⟨h.hh, by have := h.dep; omega, by have := h.uni; omega⟩

def Kp (W : List Addr) (h h' : Heap) : Prop := ∀ b o, b ∉ W → h.get? b = some o → h'.get? b = some o

theorem Kp.refl {W : List Addr} {h : Heap} : Kp W h h := fun _ _ _ e => e
theorem Kp.trans {W : List Addr} {h h' h'' : Heap} (a : Kp W h h') (b : Kp W h' h'') : Kp W h h'' := fun x o n e => b x o n (a x o n e)

theorem enter {w : World} {A : Around} {s : Shared} {H : Heap} {K : Frag} {Q : Value → Shared → Prop} {name qual : Str} {params : Arguments} {body : List Stmt} {scope : Scope} {cl : List (Str × Addr)}
    {dV kV doc pm cdv ct oc : Value} {an od : Option Addr} {osl : Array (Option Value)} {f : Addr} {args : List Value} {binds : List (Str × Value)} (news : List (Addr × Obj))
    (X : K.In H) (KH : Kp [] H s.heap) (hlim : H.NoLimit) (hN : ∀ p ∈ news, s.heap.get? p.1 = some p.2 ∧ H.get? p.1 = none)
    (hroom : A.depth < recursionLimit)
    (ho : K.lookup f = some ⟨oc, od, .func (fnX name qual params body scope cl dV kV doc pm an cdv ct), osl⟩) (hcd : codeIn K cdv qual = true)
    (hbind : BindsTo s (fnX name qual params body scope cl dV kV doc pm an cdv ct) ⟨args, []⟩ binds) (hloc : ∀ y ∈ binds, scope.names.lookup y.1 = some .local)
    (h : ∀ g L' h₁, (∀ b o, g.get? b = some o ↔ (b ∉ news.map (·.1) ∧ s.heap.get? b = some o)) → Kp [] H g → Fr g L' h₁ (fun y => binds.reverse.lookup y) → News g L' h₁ news → (∀ p ∈ news, p.1 < L') →
      wpAny (model PG w) (A.deeper (envX qual scope L' f cdv cl)) (execs body (envX qual scope L' f cdv cl))
        (fun fl s' => Q (match fl with | .ret v => v | _ => .none) s') (fun _ _ => False)
        { s with heap := h₁, toks := s.toks + binds.length })
    (hcell : ∀ x ∈ scope.names, x.2 ≠ .cell) (hco : scope.isCoroutine = false) (hgen : scope.isGenerator = false) (hk : scope.kind = .function) :
    wpAny (model PG w) A (call (.ref f) args) Q (fun _ _ => False) s := by
  have KH' : ∀ b o, H.get? b = some o → s.heap.get? b = some o := fun b o e => KH b o (by simp) e
  have XS : K.In s.heap := X.keeps KH'
  refine wpAny_call (codeAny_call_def (fd := fnX name qual params body scope cl dV kV doc pm an cdv ct) (body := body) (binds := binds) hroom (XS _ _ ho) rfl (hlim.keeps KH') (codeRec_of XS hcd) rfl hbind hcell hloc (fun h₁ hns hk₁ => ?_) hco hgen hk)
  have hg : ∀ b o, (hideAll s.heap (news.map (·.1))).get? b = some o ↔ (b ∉ news.map (·.1) ∧ s.heap.get? b = some o) := fun b o => by
    constructor
    · intro e
      refine ⟨fun m => ?_, of_hideAll _ e⟩
      rw [hideAll_none _ m] at e; cases e
    · rintro ⟨n, e⟩
      exact hideAll_get _ e n
  have := h (hideAll s.heap (news.map (·.1))) s.heap.objs.size h₁ hg (fun b o _ e => (hg b o).mpr ⟨fun m => (by
      obtain ⟨p, hp, rfl⟩ := List.mem_map.mp m
      rw [(hN p hp).2] at e; cases e), KH' b o e⟩)
    ⟨hns, fun b o e => hk₁ b o (of_hideAll _ e), Nat.le_of_eq (hideAll_size _ _)⟩
    (fun p hp => ⟨hk₁ _ _ (hN p hp).1, Nat.ne_of_lt (Heap.lt_size (hN p hp).1), hideAll_none _ (List.mem_map_of_mem hp)⟩) (fun p hp => Heap.lt_size (hN p hp).1)
  exact wpAny_mono this (fun fl s' hq => hq) fun _ _ x => x.elim

theorem known {g h : Heap} {L : Addr} {m : Str → Option Value} {ps : List (Str × Value)} (F : Fr g L h m) (hk : ∀ p ∈ ps, m p.1 = some p.2) : Fr g L h (kstB m ps) := by
  have em : kstB m ps = m := by
    funext y
    exact kstB_eq hk fun _ => rfl
  rw [em]; exact F
end Mine

namespace Mine
open PySem PySem.W PyProof.Rows PySem.Calls
set_option maxRecDepth 100000

abbrev Key := Int × Int
abbrev Z := Value × Key
def dZ : Z := (.none, (0, 0))
noncomputable def klt (a b : Key) : Bool := decide (a.1 < b.1) || (decide (a.1 = b.1) && decide (a.2 < b.2))
noncomputable def zlt (a b : Z) : Bool := klt a.2 b.2

abbrev itemsOf (zs : List Z) : Array Value := (zs.map Prod.fst).toArray
def Itm (h : Heap) (k : Bool) (z : Z) : Prop := match k with
  | false => ∃ t, z.1 = .int z.2.1 t ∧ z.2.2 = 0
  | true => ∃ a tx ty n, z.1 = .ref a ∧ h.get? a = some { cls := .type "tuple", data := .seq #[.int z.2.1 tx, .int z.2.2 ty] n }
theorem Itm.mono {h h' : Heap} {k : Bool} {z : Z} (x : Itm h k z) (e : ∀ b o, h.get? b = some o → h'.get? b = some o) : Itm h' k z := by
  cases k with
  | false => exact x
  | true => obtain ⟨a, tx, ty, n, e1, e2⟩ := x; exact ⟨a, tx, ty, n, e1, e _ _ e2⟩

section
variable {g h : Heap} {L : Addr} {m : Str → Option Value} {a b c d e f : Str} {va vb vc vd ve vf : Value}
theorem known1 (F : Fr g L h m) (h1 : m a = some va) : Fr g L h (fun y => if y = a then some va else m y) := known (ps := [(a, va)]) F (by simp [h1])
theorem known2 (F : Fr g L h m) (h1 : m a = some va) (h2 : m b = some vb) : Fr g L h (fun y => if y = a then some va else if y = b then some vb else m y) :=
  known (ps := [(a, va), (b, vb)]) F (by simp [h1, h2])
theorem known3 (F : Fr g L h m) (h1 : m a = some va) (h2 : m b = some vb) (h3 : m c = some vc) : Fr g L h (fun y => if y = a then some va else if y = b then some vb else if y = c then some vc else m y) :=
  known (ps := [(a, va), (b, vb), (c, vc)]) F (by simp [h1, h2, h3])
theorem known4 (F : Fr g L h m) (h1 : m a = some va) (h2 : m b = some vb) (h3 : m c = some vc) (h4 : m d = some vd) : Fr g L h (fun y => if y = a then some va else if y = b then some vb else if y = c then some vc else if y = d then some vd else m y) :=
  known (ps := [(a, va), (b, vb), (c, vc), (d, vd)]) F (by simp [h1, h2, h3, h4])
theorem known5 (F : Fr g L h m) (h1 : m a = some va) (h2 : m b = some vb) (h3 : m c = some vc) (h4 : m d = some vd) (h5 : m e = some ve) : Fr g L h (fun y => if y = a then some va else if y = b then some vb else if y = c then some vc else if y = d then some vd else if y = e then some ve else m y) :=
  known (ps := [(a, va), (b, vb), (c, vc), (d, vd), (e, ve)]) F (by simp [h1, h2, h3, h4, h5])
theorem known6 (F : Fr g L h m) (h1 : m a = some va) (h2 : m b = some vb) (h3 : m c = some vc) (h4 : m d = some vd) (h5 : m e = some ve) (h6 : m f = some vf) : Fr g L h (fun y => if y = a then some va else if y = b then some vb else if y = c then some vc else if y = d then some vd else if y = e then some ve else if y = f then some vf else m y) :=
  known (ps := [(a, va), (b, vb), (c, vc), (d, vd), (e, ve), (f, vf)]) F (by simp [h1, h2, h3, h4, h5, h6])
end

theorem Itm.hide {h g : Heap} {k : Bool} {z : Z} {l : Addr} {its : Array Value} {n : Nat} (x : Itm h k z) (hl : h.get? l = some (W.listOf its n)) (e : ∀ b o, b ≠ l → h.get? b = some o → g.get? b = some o) : Itm g k z := by
  cases k with
  | false => exact x
  | true =>
    obtain ⟨a, tx, ty, n, e1, e2⟩ := x
    refine ⟨a, tx, ty, n, e1, e _ _ (fun q => ?_) e2⟩
    subst q
    rw [hl] at e2
    have e3 := congrArg Obj.cls (Option.some.inj e2)
    exact absurd (Value.type.inj e3) (by decide)

theorem getD_mem {α : Type} {l : List α} {i : Nat} {d : α} (h : i < l.length) : l.getD i d ∈ l := by
  have e : l.getD i d = l[i] := by simp [h]
  rw [e]; exact List.getElem_mem h

theorem after1 {g h h' : Heap} {L l : Addr} {m : Str → Option Value} (F : Fr g L h m) (k : Kp [l] h h') (hl : g.get? l = none) (hL : l ≠ L) : Fr g L h' m := by
  refine ⟨?_, fun b o e => k b o (fun q => ?_) (F.keep b o e), F.above⟩
  · obtain ⟨o, es, ep, e, r⟩ := F.ns
    exact ⟨o, es, ep, k _ _ (by simpa using hL.symm) e, r⟩
  · simp only [List.mem_singleton] at q
    subst q
    rw [hl] at e; cases e
theorem after1N {g h h' : Heap} {L l : Addr} {o o' : Obj} {rest : List (Addr × Obj)} (N : News g L h ((l, o) :: rest)) (k : Kp [l] h h') (hl : h'.get? l = some o') (hr : ∀ p ∈ rest, p.1 ≠ l) : News g L h' ((l, o') :: rest) := by
  intro p hp
  rcases List.mem_cons.mp hp with rfl | hp
  · exact ⟨hl, (N _ (.head _)).2⟩
  · exact ⟨k _ _ (by simpa using hr p hp) (N p (.tail _ hp)).1, (N p (.tail _ hp)).2⟩

theorem intv {a b : Int} {t : Tok} (h : a = b) : some (Value.int a t) = some (Value.int b t) := by rw [h]
theorem set_mem {α : Type} {P : α → Prop} {l : List α} {i : Nat} {x : α} (h : ∀ z ∈ l, P z) (hx : P x) : ∀ z ∈ l.set i x, P z := fun z hm => by
  rcases List.mem_or_eq_of_mem_set hm with hm | rfl
  · exact h z hm
  · exact hx

theorem fresh_none {g h : Heap} {L : Addr} {m : Str → Option Value} (F : Fr g L h m) : g.get? h.objs.size = none := by
  cases q : g.get? h.objs.size with
  | none => rfl
  | some o => exact absurd (Heap.lt_size (F.keep _ _ q)) (Nat.lt_irrefl _)
theorem fresh_ne {g h : Heap} {L : Addr} {m : Str → Option Value} (F : Fr g L h m) : h.objs.size ≠ L := Nat.ne_of_gt F.ns.lt
theorem fdiv2 (n : Nat) : ((n : Nat) : Int).fdiv 2 = ((n / 2 : Nat) : Int) := by
  rw [Int.fdiv_eq_ediv_of_nonneg _ (by decide)]; omega
theorem list_ne {its : Array Value} {n : Nat} {c : String} (h : c ≠ "list") : (W.listOf its n).cls ≠ .type c := fun e => h (Value.type.inj e).symm

theorem getD_map_fst (zs : List Z) (i : Nat) : (zs.map Prod.fst).getD i .none = (zs.getD i dZ).1 := by
  simp only [List.getD_eq_getElem?_getD, List.getElem?_map]
  cases zs[i]? <;> rfl

section
variable {prog : Program} {w : World} {A : Around} {E : Value → Shared → Prop} {s : Shared}
theorem cut {α : Type} {M : Model} {t : Sem α} {Q Q' : α → Shared → Prop} (h : wpAny M A t Q' E s) (k : ∀ a s', Q' a s' → Q a s') : wpAny M A t Q E s := wpAny_mono h k fun _ _ x => x

theorem my_item {value slice : Expr} {l : Addr} {zs : List Z} {n : Nat} {k : Int} {u : Tok} {Q : Value → Shared → Prop}
    (hl : s.heap.get? l = some (W.listOf (itemsOf zs) n)) (h0 : 0 ≤ k ∧ k < zs.length ∧ zs.length < 64) (h : Q (zs.getD k.toNat dZ).1 s)
    (hs : subscripted slice false (.ref l) (.int k u) = operate [.ref l, .int k u] (getItem (.ref l) (.int k u)) := by with_unfolding_all rfl) :
    wpAny (model prog w) A (subscriptTail value slice (.ref l) (.int k u)) Q E s := by
  have hl' : s.heap.IsList l (itemsOf zs) := ⟨_, hl, rfl, _, rfl⟩
  refine tail_any hl'.typeIs slot_list_getitem.lookup (wpAny_getItem_list hl' h0.1 (by omega) ?_ h) hs
  have hk : k.toNat < zs.length := by omega
  simp [hk]

theorem my_set {g : Heap} {L : Addr} {m : Str → Option Value} {news news' : List (Addr × Obj)} {l : Addr} {zs : List Z} {n : Nat} {k : Int} {u : Tok} {v : Value} {Q : Unit → Shared → Prop} (z : Z)
    (F : Fr g L s.heap m) (N : News g L s.heap news) (U : Upd l (W.listOf (itemsOf zs) n) (W.listOf (itemsOf (zs.set k.toNat z)) n) news news')
    (h0 : 0 ≤ k ∧ k < zs.length ∧ zs.length < 64) (hz : v = z.1)
    (h : ∀ h', Fr g L h' m → News g L h' news' → Q () { s with heap := h' }) :
    wpAny (model prog w) A (setItem (.ref l) (.int k u) v) Q E s := by
  obtain ⟨pre, post, rfl, rfl, hpre, hpost⟩ := U.split
  have hl := (N (l, W.listOf (itemsOf zs) n) (by simp)).1
  subst hz
  have hl' : s.heap.IsList l (itemsOf zs) := ⟨_, hl, rfl, _, rfl⟩
  obtain ⟨o, ho, hc, ne, hd⟩ := id hl'
  unfold setItem
  try with_reducible refine wpAny_holding ?_
  first | refine wpAny_bind (wpAny_pure ?_) | skip
  refine wpAny_bind (wpAny_sequenceKey hl'.typeIs (by decide) ?_)
  refine wpAny_bind (wpAny_callSpecial?_slot (name := Str.ofString "__setitem__") hl'.typeIs slot_list_setitem
    (wpAny_call_entry slot_list_setitem hl'.typeIs entry_list_setitem ?_ (args_list_setitem _ _ _)))
  show wpAny _ _ (Builtin.List.listSubscript? (.int k u) >>= _) _ _ s
  refine wpAny_bind (wpAny_listSubscript_int (fitsIndex_of h0.1 (by omega)) ?_)
  obtain ⟨j, rfl⟩ := Int.eq_ofNat_of_zero_le h0.1
  have hj : j < (itemsOf zs).size := by simp; omega
  have hx' : (itemsOf zs)[j]? = some (itemsOf zs)[j] := Array.getElem?_eq_getElem hj
  show wpAny _ _ ((seqItemAt l j >>= fun r => pure (r.map (j, ·))) >>= _) _ _ s
  refine wpAny_bind (wpAny_bind (wpAny_seqItemAt hl rfl (wpAny_pure ?_)))
  rw [hx']
  show wpAny _ _ (setSeqItemAt l j z.1 >>= _) _ _ s
  obtain ⟨F', N'⟩ := news_upd (f := Obj.mapSeq (·.setIfInBounds j z.1)) (o' := W.listOf (itemsOf (zs.set j z)) n) F N hpre hpost (by
    show Obj.mapSeq _ (W.listOf _ _) = _
    unfold W.listOf Obj.mapSeq
    simp [List.map_set]) rfl
  have fin := h _ F' N'
  refine wpAny_bind (wpAny_setSeqItemAt hl rfl ?_)
  first
    | exact wpAny_bind (wpAny_pure (wpAny_pure ⟨.none, rfl, wpAny_pure fin⟩))
    | exact wpAny_pure ⟨.none, rfl, wpAny_pure fin⟩

theorem my_len {l : Addr} {zs : List Z} {n : Nat} {Q : Value → Shared → Prop} (hl : s.heap.get? l = some (W.listOf (itemsOf zs) n)) (hz : zs.length < 2 ^ 20)
    (h : Q (.int zs.length (s.toks + 1)) { s with toks := s.toks + 1 + 1 }) : wpAny (model prog w) A (call (.builtin "len") [.ref l]) Q E s := by
  refine len_list ⟨_, hl, rfl, _, rfl⟩ (by simp; omega) ?_
  have e : (itemsOf zs).size = zs.length := by simp
  rw [e]; exact h

theorem my_truthy {l : Addr} {zs : List Z} {n : Nat} {Q : Bool → Shared → Prop} (hl : s.heap.get? l = some (W.listOf (itemsOf zs) n)) (hz : zs.length < 2 ^ 20)
    (h : Q (decide (0 < zs.length)) { s with toks := s.toks + 1 + 1 }) : wpAny (model prog w) A (truthy (.ref l)) Q E s := by
  refine wpAny_truthy_list (items := itemsOf zs) ⟨_, hl, rfl, _, rfl⟩ (by simp; omega) ?_
  have e : (!(itemsOf zs).isEmpty) = decide (0 < zs.length) := by
    cases zs <;> simp
  rw [e]; exact h

theorem my_append {g : Heap} {L : Addr} {m : Str → Option Value} {news news' : List (Addr × Obj)} {l : Addr} {zs : List Z} {n : Nat} {v : Value} {Q : Value → Shared → Prop} (z : Z)
    (F : Fr g L s.heap m) (N : News g L s.heap news) (U : Upd l (W.listOf (itemsOf zs) n) (W.listOf (itemsOf (zs ++ [z])) (n + 1)) news news')
    (h0 : zs.length < 2 ^ 20) (hz : v = z.1)
    (h : ∀ h', Fr g L h' m → News g L h' news' → Q .none { s with heap := h' }) :
    wpAny (model prog w) A (call (.builtin "list.append") [.ref l, v]) Q E s := by
  subst hz
  have e : itemsOf (zs ++ [z]) = (itemsOf zs).push z.1 := by simp
  rw [e] at U
  exact append_K F N U h (by rw [sizeLine_eq]; simp; omega)

theorem kl_last_append (p : List Value) (y : Value) : kl_last (p ++ [y]) = some (p, y) := by
  induction p with
  | nil => rfl
  | cons x r ih => simp only [List.cons_append, kl_last, ih]

theorem my_pop {g : Heap} {L : Addr} {m : Str → Option Value} {news news' : List (Addr × Obj)} {l : Addr} {zs : List Z} {z : Z} {n : Nat} {Q : Value → Shared → Prop}
    (F : Fr g L s.heap m) (N : News g L s.heap news) (U : Upd l (W.listOf (itemsOf (zs ++ [z])) n) (W.listOf (itemsOf zs) (n + 1)) news news')
    (h0 : zs.length < 2 ^ 20)
    (h : ∀ h', Fr g L h' m → News g L h' news' → Q z.1 { s with heap := h' }) :
    wpAny (model prog w) A (call (.builtin "list.pop") [.ref l]) Q E s := by
  refine kl_pop (its := itemsOf (zs ++ [z])) (p := zs.map Prod.fst) F N ?_ U (by rw [sizeLine_eq]; simp; omega) h
  have e : (itemsOf (zs ++ [z])).toList = zs.map Prod.fst ++ [z.1] := by simp
  rw [e]; exact kl_last_append _ _

theorem my_shr {a : Int} {t u : Tok} {Q : Value → Shared → Prop} (h : Q (.int (a / 2) s.toks) { s with toks := s.toks + 1 }) : wpAny (model prog w) A (binaryOp .RShift (.int a t) (.int 1 u)) Q E s := by
  refine rshift_int (by decide) ?_
  have e : a.fdiv (2 ^ (1 : Int).toNat) = a / 2 := by
    show a.fdiv 2 = a / 2
    rw [Int.fdiv_eq_ediv_of_nonneg a (by decide)]
  rw [e]; exact h

theorem tuple_lt_tree {a b : Addr} {x y x' y' : Int} {t1 t2 t3 t4 : Tok} {n n' : Nat} {P : PySem.Fin → Shared → Prop}
    (ha : s.heap.get? a = some { cls := .type "tuple", data := .seq #[.int x t1, .int y t2] n }) (hb : s.heap.get? b = some { cls := .type "tuple", data := .seq #[.int x' t3, .int y' t4] n' })
    (h : P (.done (.ret (.bool (klt (x, y) (x', y'))))) s) :
    wpAny (model prog w) A (Builtin.«tuple.__lt__» ⟨[.ref a, .ref b], []⟩) P E s := by
  have hTb : s.TypeIs (.ref b) "tuple" := ⟨_, hb, rfl⟩
  show wpAny _ _ (isInstance (.ref b) (.type "tuple") >>= _) _ _ s
  refine wpAny_bind (wpAny_isInstance hTb isSubtype_tuple_tuple ?_)
  simp only [Bool.not_true, Bool.false_eq_true, if_false]
  refine wpAny_bind (wpAny_tupleItemsOf ha rfl ?_)
  refine wpAny_bind (wpAny_tupleItemsOf hb rfl ?_)
  refine wpAny_bind ?_
  show wpAny _ _ (forIn [(Value.int x t1, Value.int x' t3), (Value.int y t2, Value.int y' t4)] _ _) _ _ s
  rw [List.forIn_cons]
  refine wpAny_bind ?_
  refine wpAny_bind (wpAny_eqBool_int ?_)
  by_cases hx : x = x'
  · subst hx
    simp only [beq_self_eq_true, Bool.not_true, Bool.false_eq_true, if_false]
    refine wpAny_pure ?_
    dsimp only
    rw [List.forIn_cons]
    refine wpAny_bind ?_
    refine wpAny_bind (wpAny_eqBool_int ?_)
    by_cases hy : y = y'
    · subst hy
      simp only [beq_self_eq_true, Bool.not_true, Bool.false_eq_true, if_false]
      refine wpAny_pure ?_
      dsimp only
      rw [List.forIn_nil]
      refine wpAny_pure ?_
      have e : klt (x, y) (x, y) = false := by simp [klt]
      rw [e] at h
      exact wpAny_pure h
    · have e : (y == y') = false := by simpa using hy
      rw [e]
      simp only [Bool.not_false, if_true]
      have ek : klt (x, y) (x, y') = decide (y < y') := by simp [klt]
      rw [ek] at h
      refine wpAny_bind (wpAny_rule ?_)
      refine wpAny_bind (PyProof.Rows.lt_int (a := y) (b := y') ?_)
      exact wpAny_bind (wpAny_pure (wpAny_pure (wpAny_pure (wpAny_pure h))))
  · have e : (x == x') = false := by simpa using hx
    rw [e]
    simp only [Bool.not_false, if_true]
    have ek : klt (x, y) (x', y') = decide (x < x') := by simp [klt, hx]
    rw [ek] at h
    refine wpAny_bind (wpAny_rule ?_)
    refine wpAny_bind (PyProof.Rows.lt_int (a := x) (b := x') ?_)
    exact wpAny_bind (wpAny_pure (wpAny_pure (wpAny_pure (wpAny_pure h))))

theorem lt_tup {a b : Addr} {x y x' y' : Int} {t1 t2 t3 t4 : Tok} {n n' : Nat} {Q : Value → Shared → Prop} (hu : A.units < cLine)
    (ha : s.heap.get? a = some { cls := .type "tuple", data := .seq #[.int x t1, .int y t2] n }) (hb : s.heap.get? b = some { cls := .type "tuple", data := .seq #[.int x' t3, .int y' t4] n' })
    (h : Q (.bool (klt (x, y) (x', y'))) s) : wpAny (model prog w) A (compareOp .Lt (.ref a) (.ref b)) Q E s := by
  refine cmp_ofLt ?_
  exact wpAny_richCompare_same_room (op := .Lt) ⟨_, ha, rfl⟩ ⟨_, hb, rfl⟩ F.slot_tuple_lt
      (wpAny_call_entry F.slot_tuple_lt ⟨_, ha, rfl⟩ F.entry_tuple_lt (tuple_lt_tree ha hb ⟨_, rfl, (fun e => nomatch e), h⟩) (F.args_tuple_lt_2 _ _)) hu

theorem lt_itm {k : Bool} {a b : Z} {Q : Value → Shared → Prop} (ha : Itm s.heap k a) (hb : Itm s.heap k b) (hu : A.units + 3 < cLine)
    (h : ∀ tk, Q (.bool (zlt a b)) { s with toks := tk }) : wpAny (model prog w) A (compareOp .Lt a.1 b.1) Q E s := by
  cases k with
  | false =>
    obtain ⟨t, e1, e2⟩ := ha
    obtain ⟨u, e3, e4⟩ := hb
    rw [e1, e3]
    refine PyProof.Rows.lt_int ?_
    have := h s.toks
    have ez : zlt a b = decide (a.2.1 < b.2.1) := by
      unfold zlt klt
      rw [e2, e4]; simp
    rw [ez] at this
    exact this
  | true =>
    obtain ⟨a1, t1, t2, n1, e1, e2⟩ := ha
    obtain ⟨a2, t3, t4, n2, e3, e4⟩ := hb
    rw [e1, e3]
    exact lt_tup (by omega) e2 e4 (h s.toks)
end
end Mine

namespace Mine
open PySem PySem.W PyProof.Rows PySem.Calls
set_option maxRecDepth 100000
set_option linter.unusedVariables false
section
variable {prog : Program} {w : World} {A : Around} {E : Value → Shared → Prop} {s : Shared} {env : Env}

theorem my_for {target iter : Expr} {body : List Stmt} {pos : Pos} {Q : Flow → Shared → Prop} (J : Nat → Value → Shared → Prop)
    (h : wpAny (model prog w) A (eval iter env) (fun xv s₁ => wpAny (model prog w) A (pyIter xv) (fun it s₂ => ∃ n, J n it s₂) (fun _ _ => False) s₁) (fun _ _ => False) s)
    (turn : ∀ n it s, J n it s → wpAny (model prog w) A (pyNext it) (fun r s₁ => match r with
      | none => Q .next s₁
      | some v => wpAny (model prog w) A (assign target env v) (fun _ s₂ => wpAny (model prog w) A (execs body env) (fun f s₃ => match f with
          | .next | .cont => ∃ m, m < n ∧ J m it s₃
          | .brk => Q .next s₃
          | .ret v => Q (.ret v) s₃) (fun _ _ => False) s₂) (fun _ _ => False) s₁) (fun _ _ => False) s)
    (ht : ∀ it v, letOwnedTupleGo target it v = pure () := by intro _ _; rfl)
    (hs : ∀ x, foldedSetIterable iter env x = pure x := by intro _; rfl) :
    wpAny (model prog w) A (exec (.For target iter body [] pos) env) Q (fun _ _ => False) s := by
  refine wpAny_For (wpAny_mono h (fun xv s₁ h₁ => wpAny_mono h₁ (fun it s₂ h₂ => ?_) fun _ _ x => x.elim) fun _ _ x => x.elim) hs
  obtain ⟨n, hj⟩ := h₂
  refine codeAny_forLoop (J · it) (fun n s hI => ?_) n hj (ht it)
  refine wpAny_mono (turn n it s hI) (fun r s₁ h₁ => ?_) fun _ _ x => x.elim
  cases r with
  | none => exact wpAny_execs_nil h₁
  | some v => exact wpAny_mono h₁ (fun _ s₂ h₂ => wpAny_mono h₂ (fun f s₃ h₃ => by cases f <;> exact h₃) fun _ _ x => x.elim) fun _ _ x => x.elim

def Kc (c : String) (L : Addr) (h h' : Heap) : Prop := ∀ b o, b ≠ L → o.cls ≠ .type c → h.get? b = some o → h'.get? b = some o

abbrev ritObj (x left step : Int) : Obj := { cls := .type "range_iterator", dict := none, data := .fields #[rawInt x, rawInt left, rawInt step], slots := #[] }

theorem fr_chg {g h h' : Heap} {L I : Addr} {m : Str → Option Value} (F : Fr g L h m) (hs : ∀ b o, b ≠ I → h.get? b = some o → h'.get? b = some o) (hL : I ≠ L) (hg : g.get? I = none) : Fr g L h' m := by
  obtain ⟨oL, es, ep, hL', r⟩ := F.ns
  refine ⟨⟨oL, es, ep, hs _ _ hL.symm hL', r⟩, fun b o e => hs b o (fun q => ?_) (F.keep b o e), F.above⟩
  subst q; rw [hg] at e; cases e

theorem my_for_rit {x : Str} {px pos : Pos} {iter : Expr} {body : List Stmt} {Q : Flow → Shared → Prop} {g : Heap} {n : Nat} {a c : Int} (J : Nat → (Str → Option Value) → Heap → Prop)
    (hh : A.handled = none) (hk : env.scope.kind = .function) (hx : env.kindOf x = some .local)
    (stable : ∀ i m h h', J i m h → Kc "range_iterator" env.locals h h' → J i m h')
    (h : wpAny (model prog w) A (eval iter env) (fun xv s₁ => wpAny (model prog w) A (pyIter xv) (fun it s₂ => ∃ I m h tk, it = .ref I ∧ s₂ = { s with heap := h, toks := tk } ∧ h.get? I = some (ritObj a n c) ∧ g.get? I = none ∧ I ≠ env.locals ∧ Fr g env.locals h m ∧ J 0 m h) (fun _ _ => False) s₁) (fun _ _ => False) s)
    (turn : ∀ i I ro m h tk t, i < n → J i m h → g.get? I = none → I ≠ env.locals → ro.cls = .type "range_iterator" → h.get? I = some ro → Fr g env.locals h (fun y => if y = x then some (.int (a + (i : Nat) * c) t) else m y) →
      wpAny (model prog w) A (execs body env) (fun f s₃ => match f with
          | .next | .cont => ∃ h' tk' m', s₃ = { s with heap := h', toks := tk' } ∧ h'.get? I = some ro ∧ Fr g env.locals h' m' ∧ J (i + 1) m' h'
          | .brk => Q .next s₃
          | .ret v => Q (.ret v) s₃) (fun _ _ => False) { s with heap := h, toks := tk })
    (done : ∀ m h tk, J n m h → Fr g env.locals h m → Q .next { s with heap := h, toks := tk })
    (hs : ∀ x, foldedSetIterable iter env x = pure x := by intro _; rfl) :
    wpAny (model prog w) A (exec (.For (.Name x px) iter body [] pos) env) Q (fun _ _ => False) s := by
  refine my_for (fun k it s' => ∃ i I m h tk, it = .ref I ∧ s' = { s with heap := h, toks := tk } ∧ k = n - i ∧ i ≤ n ∧ h.get? I = some (ritObj (a + (i : Nat) * c) ((n : Int) - (i : Nat)) c) ∧ g.get? I = none ∧ I ≠ env.locals ∧ Fr g env.locals h m ∧ J i m h)
    (wpAny_mono h (fun xv s₁ h₁ => wpAny_mono h₁ (fun it s₂ h₂ => ?_) fun _ _ x => x) fun _ _ x => x) ?_ (hs := hs)
  · obtain ⟨I, m, h, tk, rfl, rfl, hI, hg, hL, F, j⟩ := h₂
    exact ⟨n, 0, I, m, h, tk, rfl, rfl, rfl, Nat.zero_le _, by simpa using hI, hg, hL, F, j⟩
  · rintro k it s' ⟨i, I, m, hp, tk, rfl, rfl, rfl, hi, hI, hg, hL, F, j⟩
    by_cases hlt : i < n
    · refine wpAny_pyNext_range_item hI (by omega) fun h' hI' hs' => ?_
      have F' := fr_chg F (fun b o hb e => hs'.extBut b o hb e) hL hg
      have j' := stable i m hp h' j fun b o hb hc e => hs'.extBut b o (fun q => by subst q; rw [hI] at e; cases e; exact hc rfl) e
      have e1 : a + (i : Nat) * c + c = a + (i + 1 : Nat) * c := by
        rw [show ((i + 1 : Nat) : Int) = (i : Int) + 1 by omega, Int.add_mul, Int.one_mul, Int.add_assoc]
      have e2 : (n : Int) - (i : Nat) - 1 = (n : Int) - (i + 1 : Nat) := by omega
      rw [e1, e2] at hI'
      refine wpAny_assign_Name ?_
      refine wpAny_storeName_local hx F'.ns (fun h₂ hn hs₂ => ?_) (by show (env.scope.kind == .class || (env.scope.kind == .module && _)) = false; rw [hk]; rfl)
      have F₂ := F'.set hn hs₂
      have j₂ := stable i m h' h₂ j' fun b o hb hc e => (hs₂.2 b hb).trans e
      have hI₂ : h₂.get? I = _ := (hs₂.2 I hL).trans hI'
      refine wpAny_mono (turn i I _ m h₂ _ tk hlt j₂ hg hL rfl hI₂ F₂) (fun f s₃ h₃ => ?_) fun _ _ x => x
      have conv : (∃ h' tk' m', s₃ = { s with heap := h', toks := tk' } ∧ h'.get? I = some (ritObj (a + (i + 1 : Nat) * c) ((n : Int) - (i + 1 : Nat)) c) ∧ Fr g env.locals h' m' ∧ J (i + 1) m' h') →
          ∃ m, m < n - i ∧ ∃ i I' m' h tk, Value.ref I = .ref I' ∧ s₃ = { s with heap := h, toks := tk } ∧ m = n - i ∧ i ≤ n ∧ h.get? I' = some (ritObj (a + (i : Nat) * c) ((n : Int) - (i : Nat)) c) ∧ g.get? I' = none ∧ I' ≠ env.locals ∧ Fr g env.locals h m' ∧ J i m' h := by
        rintro ⟨h', tk', m', rfl, q1, q2, q3⟩
        exact ⟨n - (i + 1), by omega, i + 1, I, m', h', tk', rfl, rfl, rfl, by omega, q1, hg, hL, q2, q3⟩
      cases f with
      | next => exact conv h₃
      | cont => exact conv h₃
      | brk => exact h₃
      | ret v => exact h₃
    · obtain rfl : i = n := by omega
      refine wpAny_pyNext_range_end hh hI (by omega) fun h' hk => ?_
      exact done m h' tk (stable i m hp h' j fun b o hb hc e => hk b o (fun q => by subst q; rw [hI] at e; cases e; exact hc rfl) e) (fr_chg F (fun b o hb e => hk b o hb e) hL hg)

theorem rsz (n : Nat) : Builtin.Range.rangeSize 0 n 1 = n := by
  unfold Builtin.Range.rangeSize
  simp only [show (1 : Int) > 0 by decide, if_true, Int.sub_zero, Int.ediv_one]
  split <;> omega

theorem my_range_reversed {r : Addr} {n : Nat} {t u v : Tok} {Q : Value → Shared → Prop} (hn : n < 64) (hr : IsRange s.heap r 0 n 1 t u v)
    (h : Q (.ref s.heap.objs.size) { s with heap := s.heap.push (ritObj ((n : Int) - 1) n (-1)) }) :
    wpAny (model prog w) A (call (.builtin "range.__reversed__") [.ref r]) Q E s := by
  have hT : s.TypeIs (.ref r) "range" := ⟨_, hr, rfl⟩
  refine wpAny_call_entry F.slot_range_reversed hT F.entry_range_reversed ?_ (F.args_range_reversed_1 _)
  unfold Builtin.«range.__reversed__»
  refine wpAny_bind (wpAny_of_eq (a := Value.ref r) rfl ?_)
  have hf : ∀ {Q' : Int × Int × Int → Shared → Prop} {E' : Value → Shared → Prop}, Q' (0, n, 1) s → wpAny (model prog w) A.in1 (Builtin.Range.rangeFields (.ref r)) Q' E' s := fun hq => by
    unfold Builtin.Range.rangeFields
    refine wpAny_bind (wpAny_field hr rfl (x := .int 0 t) rfl ?_)
    refine wpAny_bind (wpAny_of_eq (a := some (0 : Int)) rfl ?_)
    refine wpAny_bind (wpAny_field hr rfl (x := .int n u) rfl ?_)
    refine wpAny_bind (wpAny_of_eq (a := some (n : Int)) rfl ?_)
    refine wpAny_bind (wpAny_field hr rfl (x := .int 1 v) rfl ?_)
    refine wpAny_bind (wpAny_of_eq (a := some (1 : Int)) rfl ?_)
    exact wpAny_pure hq
  refine wpAny_bind (hf ?_)
  have e1 : ∀ x : Int, -(2 ^ 63) ≤ x → x < 2 ^ 63 → Builtin.Range.rangeFitsLong x = true := fun x h1 h2 => by
    unfold Builtin.Range.rangeFitsLong
    simp only [Bool.and_eq_true, decide_eq_true_eq]
    exact ⟨by omega, by omega⟩
  simp only [rsz]
  rw [e1 0 (by decide) (by decide), e1 n (by omega) (by omega), e1 1 (by decide) (by decide), e1 (-1) (by decide) (by decide), e1 (0 - 1) (by decide) (by decide)]
  simp only [Bool.and_true, Bool.not_true, Bool.false_eq_true, if_false, if_true]
  have e2 : (0 : Int) + ((n : Int) - 1) * 1 = (n : Int) - 1 := by omega
  rw [e2]
  refine wpAny_bind (wpAny_newObj_type (wpAny_pure ⟨_, rfl, h⟩))

theorem sub_rit_reversed : isSubtype (.type "range_iterator") (.type "reversed") = pure false := by rw [isSubtype_type]; kernel_rfl

theorem code_reversed_rng {r : Addr} {n : Nat} {t u v : Tok} {Q₁ : Value → Shared → Prop} (hn : n < 64) (hr : IsRange s.heap r 0 n 1 t u v)
    (h : Q₁ (.ref s.heap.objs.size) { s with heap := s.heap.push (ritObj ((n : Int) - 1) n (-1)) }) :
    codeAny (model prog w) A (.call (.builtin "reversed.__new__") ⟨[.type "reversed", .ref r], []⟩) (wants Q₁ E) s := by
  have hT : s.TypeIs (.ref r) "range" := ⟨_, hr, rfl⟩
  refine codeAny_of_tree ?_
  show wpAny _ A.in1 (do checkBuiltinCall "reversed.__new__" ⟨[.type "reversed", .ref r], []⟩; again (.builtin "reversed.__new__" ⟨[.type "reversed", .ref r], []⟩)) _ _ s
  refine wpAny_bind (wpAny_of_eq (F.newCall_reversed_1 _) (wpAny_pure ⟨plainId_quiet F.plain_reversed_new _, codeAny_builtin F.entry_reversed_new ?_⟩))
  rw [Around.under_plainId F.plain_reversed_new _]
  unfold Builtin.«reversed.__new__»
  refine wpAny_bind (wpAny_of_eq (newClass_reversed _) ?_)
  try dsimp only
  refine wpAny_bind (wpAny_of_eq (a := ()) (by first | rfl | kernel_rfl) ?_)
  refine wpAny_bind (wpAny_of_eq (a := ()) (by first | rfl | kernel_rfl) ?_)
  try dsimp only
  refine wpAny_bind (wpAny_specialOf hT F.slot_range_reversed.lookup ?_)
  try dsimp only
  refine wpAny_bind (wpAny_of_eq (F.slot_range_reversed.bind _) ?_)
  try dsimp only
  first
  | rw [if_neg (show ¬ ((Value.builtin "range.__reversed__" == Value.none) = true) from Bool.false_ne_true)]
  | (show wpAny _ _ (if (Value.builtin "range.__reversed__" == Value.none) = true then _ else _) _ _ _; rw [if_neg (show ¬ ((Value.builtin "range.__reversed__" == Value.none) = true) from Bool.false_ne_true)])
  refine wpAny_bind (wpAny_rule ?_)
  refine wpAny_bind (m := runValue (.call (.builtin "range.__reversed__") ⟨[.ref r], []⟩)) (show wpAny _ _ (call (.builtin "range.__reversed__") [.ref r]) _ _ _ from my_range_reversed hn hr ?_)
  first
  | exact wpAny_pure h
  | exact wpAny_bind (wpAny_pure (wpAny_pure h))

theorem call_reversed_rng {r : Addr} {n : Nat} {t u v : Tok} {Q : Value → Shared → Prop} (hn : n < 64) (hr : IsRange s.heap r 0 n 1 t u v)
    (h : Q (.ref s.heap.objs.size) { s with heap := s.heap.push (ritObj ((n : Int) - 1) n (-1)) }) : wpAny (model prog w) A (call (.type "reversed") [.ref r]) Q E s := by
  refine callType_other (U := "range_iterator") (Q₁ := fun obj s₁ => obj = .ref s.heap.objs.size ∧ s₁ = { s with heap := s.heap.push (ritObj ((n : Int) - 1) n (-1)) }) (by decide +kernel) F.create_reversed ⟨_, _, F.mro_reversed⟩ F.made_reversed sub_rit_reversed (F.typeCall_reversed_1 _) (code_reversed_rng hn hr ⟨rfl, rfl⟩) ?_
  rintro obj s₁ ⟨rfl, rfl⟩
  exact ⟨⟨_, Heap.get?_push_size _ rfl, rfl⟩, h⟩

theorem wpAny_pyIter_rit {it : Addr} {x left step : Int} {Q : Value → Shared → Prop} (hit : s.heap.get? it = some (ritObj x left step)) (h : Q (.ref it) s) : wpAny (model prog w) A (pyIter (.ref it)) Q E s := wpAny_pyIter_rangeiter hit h
end
end Mine

namespace Mine
open PySem PySem.W PyProof.Rows PySem.Calls
set_option maxRecDepth 100000
set_option linter.unusedVariables false
section
variable {prog : Program} {w : World} {A : Around} {E : Value → Shared → Prop} {s : Shared} {env : Env}

def Kd (L : Addr) (h h' : Heap) : Prop := ∀ b o, b ≠ L → (∀ a l c, o ≠ ritObj a l c) → h.get? b = some o → h'.get? b = some o
theorem my_for_rit2 {x : Str} {px pos : Pos} {iter : Expr} {body : List Stmt} {Q : Flow → Shared → Prop} {g : Heap} {n : Nat} {a c : Int} (J : Nat → (Str → Option Value) → Heap → Prop)
    (hh : A.handled = none) (hk : env.scope.kind = .function) (hx : env.kindOf x = some .local)
    (stable : ∀ i m h h', J i m h → Kd env.locals h h' → J i m h')
    (h : wpAny (model prog w) A (eval iter env) (fun xv s₁ => wpAny (model prog w) A (pyIter xv) (fun it s₂ => ∃ I m h tk, it = .ref I ∧ s₂ = { s with heap := h, toks := tk } ∧ h.get? I = some (ritObj a n c) ∧ g.get? I = none ∧ I ≠ env.locals ∧ Fr g env.locals h m ∧ J 0 m h) (fun _ _ => False) s₁) (fun _ _ => False) s)
    (turn : ∀ i I ro m h tk t, i < n → J i m h → g.get? I = none → I ≠ env.locals → (∃ a l c, ro = ritObj a l c) → h.get? I = some ro → Fr g env.locals h (fun y => if y = x then some (.int (a + (i : Nat) * c) t) else m y) →
      wpAny (model prog w) A (execs body env) (fun f s₃ => match f with
          | .next | .cont => ∃ h' tk' m', s₃ = { s with heap := h', toks := tk' } ∧ h'.get? I = some ro ∧ Fr g env.locals h' m' ∧ J (i + 1) m' h'
          | .brk => Q .next s₃
          | .ret v => Q (.ret v) s₃) (fun _ _ => False) { s with heap := h, toks := tk })
    (done : ∀ m h tk, J n m h → Fr g env.locals h m → Q .next { s with heap := h, toks := tk })
    (hs : ∀ x, foldedSetIterable iter env x = pure x := by intro _; rfl) :
    wpAny (model prog w) A (exec (.For (.Name x px) iter body [] pos) env) Q (fun _ _ => False) s := by
  refine my_for (fun k it s' => ∃ i I m h tk, it = .ref I ∧ s' = { s with heap := h, toks := tk } ∧ k = n - i ∧ i ≤ n ∧ h.get? I = some (ritObj (a + (i : Nat) * c) ((n : Int) - (i : Nat)) c) ∧ g.get? I = none ∧ I ≠ env.locals ∧ Fr g env.locals h m ∧ J i m h)
    (wpAny_mono h (fun xv s₁ h₁ => wpAny_mono h₁ (fun it s₂ h₂ => ?_) fun _ _ x => x) fun _ _ x => x) ?_ (hs := hs)
  · obtain ⟨I, m, h, tk, rfl, rfl, hI, hg, hL, F, j⟩ := h₂
    exact ⟨n, 0, I, m, h, tk, rfl, rfl, rfl, Nat.zero_le _, by simpa using hI, hg, hL, F, j⟩
  · rintro k it s' ⟨i, I, m, hp, tk, rfl, rfl, rfl, hi, hI, hg, hL, F, j⟩
    by_cases hlt : i < n
    · refine wpAny_pyNext_range_item hI (by omega) fun h' hI' hs' => ?_
      have F' := fr_chg F (fun b o hb e => hs'.extBut b o hb e) hL hg
      have j' := stable i m hp h' j fun b o hb hc e => hs'.extBut b o (fun q => by subst q; rw [hI] at e; cases e; exact hc _ _ _ rfl) e
      have e1 : a + (i : Nat) * c + c = a + (i + 1 : Nat) * c := by
        rw [show ((i + 1 : Nat) : Int) = (i : Int) + 1 by omega, Int.add_mul, Int.one_mul, Int.add_assoc]
      have e2 : (n : Int) - (i : Nat) - 1 = (n : Int) - (i + 1 : Nat) := by omega
      rw [e1, e2] at hI'
      refine wpAny_assign_Name ?_
      refine wpAny_storeName_local hx F'.ns (fun h₂ hn hs₂ => ?_) (by show (env.scope.kind == .class || (env.scope.kind == .module && _)) = false; rw [hk]; rfl)
      have F₂ := F'.set hn hs₂
      have j₂ := stable i m h' h₂ j' fun b o hb hc e => (hs₂.2 b hb).trans e
      have hI₂ : h₂.get? I = _ := (hs₂.2 I hL).trans hI'
      refine wpAny_mono (turn i I _ m h₂ _ tk hlt j₂ hg hL ⟨_, _, _, rfl⟩ hI₂ F₂) (fun f s₃ h₃ => ?_) fun _ _ x => x
      have conv : (∃ h' tk' m', s₃ = { s with heap := h', toks := tk' } ∧ h'.get? I = some (ritObj (a + (i + 1 : Nat) * c) ((n : Int) - (i + 1 : Nat)) c) ∧ Fr g env.locals h' m' ∧ J (i + 1) m' h') →
          ∃ m, m < n - i ∧ ∃ i I' m' h tk, Value.ref I = .ref I' ∧ s₃ = { s with heap := h, toks := tk } ∧ m = n - i ∧ i ≤ n ∧ h.get? I' = some (ritObj (a + (i : Nat) * c) ((n : Int) - (i : Nat)) c) ∧ g.get? I' = none ∧ I' ≠ env.locals ∧ Fr g env.locals h m' ∧ J i m' h := by
        rintro ⟨h', tk', m', rfl, q1, q2, q3⟩
        exact ⟨n - (i + 1), by omega, i + 1, I, m', h', tk', rfl, rfl, rfl, by omega, q1, hg, hL, q2, q3⟩
      cases f with
      | next => exact conv h₃
      | cont => exact conv h₃
      | brk => exact h₃
      | ret v => exact h₃
    · obtain rfl : i = n := by omega
      refine wpAny_pyNext_range_end hh hI (by omega) fun h' hk => ?_
      exact done m h' tk (stable i m hp h' j fun b o hb hc e => hk b o (fun q => by subst q; rw [hI] at e; cases e; exact hc _ _ _ rfl) e) (fr_chg F (fun b o hb e => hk b o hb e) hL hg)

end
end Mine

namespace Mine
open PySem PySem.W PyProof.Rows PySem.Calls
set_option maxRecDepth 100000

theorem enterC {w : World} {A : Around} {s : Shared} {H : Heap} {K : Frag} {Q : Value → Shared → Prop} {name qual : Str} {params : Arguments} {body : List Stmt} {scope : Scope}
    {dV kV doc pm cdv ct oc : Value} {an od : Option Addr} {osl : Array (Option Value)} {f : Addr} {args : List Value} {binds : List (Str × Value)} (news : List (Addr × Obj))
    (X : K.In H) (KH : Kp [] H s.heap) (hlim : H.NoLimit) (hN : ∀ p ∈ news, s.heap.get? p.1 = some p.2 ∧ H.get? p.1 = none)
    (hroom : A.depth < recursionLimit)
    (ho : K.lookup f = some ⟨oc, od, .func (fnX name qual params body scope [] dV kV doc pm an cdv ct), osl⟩) (hcd : codeIn K cdv qual = true)
    (hbind : BindsTo s (fnX name qual params body scope [] dV kV doc pm an cdv ct) ⟨args, []⟩ binds) (hkind : (binds.all fun y => scope.names.lookup y.1 == some .local || scope.names.lookup y.1 == some .cell) = true)
    (hnd : ((cellsFrom 0 scope.names []).map (·.1)).Nodup)
    (h : ∀ g L' h₁ tk cells, (∀ b o, g.get? b = some o ↔ (b ∉ news.map (·.1) ∧ s.heap.get? b = some o)) → Kp [] H g → Fr g L' h₁ (bindL (envOfC qual scope L' f cdv).kindOf binds fun _ => none) → News g L' h₁ (cells ++ news) →
      CellsAre (bindC (envOfC qual scope L' f cdv).kindOf binds fun _ => none) (cellsFrom (L' + 1) scope.names []) cells → (∀ p ∈ news, p.1 < L') →
      wpAny (model PG w) (A.deeper (envOfC qual scope L' f cdv)) (execs body (envOfC qual scope L' f cdv))
        (fun fl s' => Q (match fl with | .ret v => v | _ => .none) s') (fun _ _ => False)
        { s with heap := h₁, toks := tk })
    (hco : scope.isCoroutine = false) (hgen : scope.isGenerator = false) (hk : scope.kind = .function) :
    wpAny (model PG w) A (call (.ref f) args) Q (fun _ _ => False) s := by
  have KH' : ∀ b o, H.get? b = some o → s.heap.get? b = some o := fun b o e => KH b o (by simp) e
  have XS : K.In s.heap := X.keeps KH'
  refine wpAny_call (codeAny_call_function hroom (XS _ _ ho) rfl hco hgen rfl (codeRec_of XS hcd) (hbind _ _ _ _ ?_))
  refine wpAny_newFunctionEnv_cells hk (kindsX hkind _) fun env' he s' x => ?_
  subst he
  refine ⟨(hlim.keeps KH').keeps x.toInCall.keep, codeAny_func ?_⟩
  obtain ⟨h₁, tk, rfl, _⟩ := x.done
  have hk₁ := x.toInCall.keep
  obtain ⟨cells, NC, Y⟩ := Cl.news (h₀ := s.heap) (Nat.le_refl _) fun n c hm => ⟨x.cell n c (lookup_of_mem_nodup (cellsFrom_names scope.names 0 (s.heap.objs.size + 1) [] [] rfl ▸ hnd) hm), x.above n c hm⟩
  have hg : ∀ b o, (hideAll s.heap (news.map (·.1))).get? b = some o ↔ (b ∉ news.map (·.1) ∧ s.heap.get? b = some o) := fun b o => by
    constructor
    · intro e
      refine ⟨fun m => ?_, of_hideAll _ e⟩
      rw [hideAll_none _ m] at e; cases e
    · rintro ⟨n, e⟩
      exact hideAll_get _ e n
  have := h (hideAll s.heap (news.map (·.1))) s.heap.objs.size h₁ tk cells hg (fun b o _ e => (hg b o).mpr ⟨fun m => (by
      obtain ⟨p, hp, rfl⟩ := List.mem_map.mp m
      rw [(hN p hp).2] at e; cases e), KH' b o e⟩)
    ⟨x.toInCall.ns, fun b o e => hk₁ b o (of_hideAll _ e), Nat.le_of_eq (hideAll_size _ _)⟩ (fun p hp => ?_) Y (fun p hp => Heap.lt_size (hN p hp).1)
  · exact wpAny_mono this (fun fl s' hq => hq) fun _ _ x => x.elim
  rcases List.mem_append.mp hp with hp | hp
  · refine ⟨(NC p hp).1, (NC p hp).2.1, ?_⟩
    cases q : (hideAll s.heap (news.map (·.1))).get? p.1 with
    | none => rfl
    | some o => have := of_hideAll _ q; rw [(NC p hp).2.2] at this; cases this
  · exact ⟨hk₁ _ _ (hN p hp).1, Nat.ne_of_lt (Heap.lt_size (hN p hp).1), hideAll_none _ (List.mem_map_of_mem hp)⟩

theorem enterLam {w : World} {A : Around} {s : Shared} {H : Heap} {Q : Value → Shared → Prop} {name qual : Str} {params : Arguments} {body : Expr} {scope : Scope} {cl : List (Str × Addr)} {pm ctv : Value} {c' f : Addr} {args : List Value} {binds : List (Str × Value)}
    (news : List (Addr × Obj)) (KH : Kp [] H s.heap) (hlim : H.NoLimit) (hN : ∀ p ∈ news, s.heap.get? p.1 = some p.2 ∧ H.get? p.1 = none) (hroom : A.depth < recursionLimit)
    (ho : s.heap.get? f = some (kla_obj name qual params body scope cl pm c' ctv)) (hcd : s.heap.CodeRec (.ref c') qual)
    (hbind : bindArgs (kla_fn name qual params body scope cl pm (.ref c') ctv) ⟨args, []⟩ = pure binds) (hloc : ∀ y ∈ binds, scope.names.lookup y.1 = some .local)
    (h : ∀ g L' h₁, (∀ b o, g.get? b = some o ↔ (b ∉ news.map (·.1) ∧ s.heap.get? b = some o)) → Kp [] H g → Fr g L' h₁ (fun y => binds.reverse.lookup y) → News g L' h₁ news → (∀ p ∈ news, p.1 < L') →
      wpAny (model PG w) (A.deeper (envX qual scope L' f (.ref c') cl)) (eval body (envX qual scope L' f (.ref c') cl))
        (fun v s' => Q v s') (fun _ _ => False) { s with heap := h₁, toks := s.toks + binds.length })
    (hco : scope.isCoroutine = false) (hgen : scope.isGenerator = false) (hk : scope.kind = .function)
    (hcell : ∀ x ∈ scope.names, x.2 ≠ .cell) : wpAny (model PG w) A (call (.ref f) args) Q (fun _ _ => False) s := by
  have KH' : ∀ b o, H.get? b = some o → s.heap.get? b = some o := fun b o e => KH b o (by simp) e
  refine wpAny_call (kla_callFunE hroom ho rfl hco hgen rfl hcd ?_)
  rw [hbind]
  refine wpAny_pure (wpAny_newFunctionEnv hcell hloc (fun h₁ hns hsb => ⟨((hlim).keeps KH').fresh _ hsb, ?_⟩) hk)
  show codeAny _ _ (.expr body (envX qual scope s.heap.objs.size f (.ref c') cl)) _ _
  have hk₁ : ∀ b o, s.heap.get? b = some o → h₁.get? b = some o := fun b o e => hsb.extBut b o (Nat.ne_of_lt (Heap.lt_size e)) (Heap.get?_push_of_some _ e)
  have hg : ∀ b o, (hideAll s.heap (news.map (·.1))).get? b = some o ↔ (b ∉ news.map (·.1) ∧ s.heap.get? b = some o) := fun b o => by
    constructor
    · intro e
      refine ⟨fun m => ?_, of_hideAll _ e⟩
      rw [hideAll_none _ m] at e; cases e
    · rintro ⟨n, e⟩
      exact hideAll_get _ e n
  have := h (hideAll s.heap (news.map (·.1))) s.heap.objs.size h₁ hg (fun b o _ e => (hg b o).mpr ⟨fun m => (by
      obtain ⟨p, hp, rfl⟩ := List.mem_map.mp m
      rw [(hN p hp).2] at e; cases e), KH' b o e⟩)
    ⟨hns, fun b o e => hk₁ b o (of_hideAll _ e), Nat.le_of_eq (hideAll_size _ _)⟩
    (fun p hp => ⟨hk₁ _ _ (hN p hp).1, Nat.ne_of_lt (Heap.lt_size (hN p hp).1), hideAll_none _ (List.mem_map_of_mem hp)⟩) (fun p hp => Heap.lt_size (hN p hp).1)
  exact kla_codeExpr (wpAny_mono this (fun v s' hl => hl) fun _ _ x => x.elim)
end Mine

namespace Mine
open PySem PySem.W PyProof.Rows PySem.Calls PyProof.Rows.LCg PyProof.Rows.LCt
set_option maxRecDepth 100000
set_option linter.unusedVariables false
section
variable {prog : Program} {w : World} {A : Around} {s : Shared} {h₀ : Heap} {L : Addr} {m : Str → Option Value} {env : Env}
  {ct elt : PySem.Expr} {x : Str} {scope : Scope} {cl : List (Str × Addr)} {S : List (Addr × Obj) → Prop} {P : Nat → Value → Prop} {Fin : List Value → List (Addr × Obj) → Prop}

theorem restT_gen (Inv : Nat → List Value → List (Addr × Obj) → Prop) {n : Nat}
    (turn : ∀ i ys news, i < n → Inv i ys news → ∀ v I oI C oC D m₂ h tk (E' : Value → Shared → Prop), P i v → NsObj oC m₂ → m₂ x = some v → Fr h₀ L h m → News h₀ L h ((I, oI) :: (C, oC) :: (D, lst ys) :: news) → Off3 I C D news → ((@Ne Nat I C) ∧ (@Ne Nat I D) ∧ (@Ne Nat C D)) →
      wpAny (model prog w) A (isTrue ct (compEnvC scope cl C env) (eval ct (compEnvC scope cl C env))) (fun ok s' => if ok = true then
        wpAny (model prog w) A (eval elt (compEnvC scope cl C env)) (CompEnd h₀ L m { s with heap := h, toks := tk } I oI C oC D (lst ys) S (fun y news' => Inv (i + 1) (ys ++ [y]) news')) E' s'
        else CompEnd h₀ L m { s with heap := h, toks := tk } I oI C oC D (lst ys) S (fun _ news' => Inv (i + 1) ys news') Value.none s') E' { s with heap := h, toks := tk })
    (fin : ∀ ys news, Inv n ys news → Fin ys news) : ∀ (k i : Nat) (ys : List Value) (news : List (Addr × Obj)), i + k = n → Inv i ys news → CompRestT prog w A h₀ L m env ct elt x scope cl s S P Fin k i ys news := by
  intro k
  induction k with
  | zero => intro i ys news e hI; exact CompRestT.zero (fin _ _ (by rw [← e]; exact hI))
  | succ k ih =>
    intro i ys news e hI
    refine CompRestT.succ fun v I oI C oC D m₂ h tk E' hP hC hx F N off ne => ?_
    refine wpAny_mono (turn i ys news (by omega) hI v I oI C oC D m₂ h tk E' hP hC hx F N off ne) (fun ok s' h' => ?_) fun _ _ e => e
    cases ok with
    | true =>
      simp only [if_true] at h' ⊢
      refine wpAny_mono h' (fun y s'' h'' => ?_) fun _ _ e => e
      obtain ⟨h₄, tk₄, news₄, r1, r2, r3, r4, r5, R₄⟩ := h''
      exact ⟨h₄, tk₄, news₄, r1, r2, r3, r4, r5, ih (i + 1) _ _ (by omega) R₄⟩
    | false =>
      simp only [Bool.false_eq_true, if_false] at h' ⊢
      obtain ⟨h₄, tk₄, news₄, r1, r2, r3, r4, r5, R₄⟩ := h'
      exact ⟨h₄, tk₄, news₄, r1, r2, r3, r4, r5, ih (i + 1) _ _ (by omega) R₄⟩

theorem rest_gen (Inv : Nat → List Value → List (Addr × Obj) → Prop) {n : Nat}
    (turn : ∀ i ys news, i < n → Inv i ys news → ∀ v I oI C oC D m₂ h tk (E' : Value → Shared → Prop), P i v → NsObj oC m₂ → m₂ x = some v → Fr h₀ L h m → News h₀ L h ((I, oI) :: (C, oC) :: (D, lst ys) :: news) → Off3 I C D news → ((@Ne Nat I C) ∧ (@Ne Nat I D) ∧ (@Ne Nat C D)) →
        wpAny (model prog w) A (eval elt (compEnvC scope cl C env)) (CompEnd h₀ L m { s with heap := h, toks := tk } I oI C oC D (lst ys) S (fun y news' => Inv (i + 1) (ys ++ [y]) news')) E' { s with heap := h, toks := tk })
    (fin : ∀ ys news, Inv n ys news → Fin ys news) : ∀ (k i : Nat) (ys : List Value) (news : List (Addr × Obj)), i + k = n → Inv i ys news → CompRest prog w A h₀ L m env elt x scope cl s S P Fin k i ys news := by
  intro k
  induction k with
  | zero => intro i ys news e hI; exact CompRest.zero (fin _ _ (by rw [← e]; exact hI))
  | succ k ih =>
    intro i ys news e hI
    refine CompRest.succ fun v I oI C oC D m₂ h tk E' hP hC hx F N off ne => ?_
    refine wpAny_mono (turn i ys news (by omega) hI v I oI C oC D m₂ h tk E' hP hC hx F N off ne) (fun y s'' h'' => ?_) fun _ _ e => e
    obtain ⟨h₄, tk₄, news₄, r1, r2, r3, r4, r5, R₄⟩ := h''
    exact ⟨h₄, tk₄, news₄, r1, r2, r3, r4, r5, ih (i + 1) _ _ (by omega) R₄⟩
end
theorem kp_of {sh g h : Heap} {L : Addr} {m : Str → Option Value} {news nw : List (Addr × Obj)} (W : List Addr) (hg : ∀ b o, g.get? b = some o ↔ (b ∉ news.map (·.1) ∧ sh.get? b = some o)) (hs : ∀ p ∈ news, sh.get? p.1 = some p.2) (F : Fr g L h m) (N : News g L h nw)
    (sub : ∀ p ∈ news, p ∈ nw ∨ p.1 ∈ W) : Kp W sh h := fun b o nb e => by
  by_cases hb : b ∈ news.map (·.1)
  · obtain ⟨p, hp, rfl⟩ := List.mem_map.mp hb
    have := hs p hp
    rw [this] at e; cases e
    rcases sub p hp with h1 | h1
    · exact (N p h1).1
    · exact absurd h1 nb
  · exact F.keep _ _ ((hg _ _).mpr ⟨hb, e⟩)

theorem filt_snoc {α : Type} (f : Nat → α) (p : α → Bool) (i : Nat) : ((List.range (i + 1)).map f).filter p = ((List.range i).map f).filter p ++ (if p (f i) then [f i] else []) := by
  rw [List.range_succ, List.map_append, List.filter_append]
  congr 1
  simp only [List.map_cons, List.map_nil, List.filter_cons, List.filter_nil]
end Mine

namespace Mine
open PySem PySem.W PyProof.Rows PySem.Calls PyProof.Rows.LCg PyProof.Rows.LCt
set_option maxRecDepth 100000
set_option linter.unusedVariables false

abbrev E2 (elt : PySem.Expr) (x y : Str) (px py : Pos) (it1 it2 ct : PySem.Expr) (scope : Scope) (pos : Pos) : PySem.Expr := .ListComp elt [⟨.Name x px, it1, [], 0⟩, ⟨.Name y py, it2, [ct], 0⟩] scope pos

theorem compTurn_0 (elt : PySem.Expr) (x y : Str) (px py : Pos) (it1 it2 ct : PySem.Expr) (scope : Scope) (pos : Pos) (it acc : Value) (env : Env) :
    compTurn (E2 elt x y px py it1 it2 ct scope pos) 0 it acc env = (standAt it1.pos >>= fun _ => pyNext it >>= fun r => match r with
      | none => pure (.done .next)
      | some v => letOwnedTupleGo (.Name x px) it v >>= fun _ => assign (.Name x px) env v >>= fun _ =>
        eval it2 env >>= fun xv => standAt it2.pos >>= fun _ => foldedSetIterable it2 env xv >>= fun xv => holding [xv] (pyIter xv) >>= fun i2 =>
          runOwn (.compStart (E2 elt x y px py it1 it2 ct scope pos) 1 i2 acc env) env >>= fun _ =>
          again (.compLoop (E2 elt x y px py it1 it2 ct scope pos) 0 it acc env)) := by rfl

theorem compTurn_1 (elt : PySem.Expr) (x y : Str) (px py : Pos) (it1 it2 ct : PySem.Expr) (scope : Scope) (pos : Pos) (it acc : Value) (env : Env) :
    compTurn (E2 elt x y px py it1 it2 ct scope pos) 1 it acc env = (do
      standAt it2.pos
      match ← pyNext it with
      | none => pure (.done .next)
      | some v =>
        letOwnedTupleGo (.Name y py) it v
        assign (.Name y py) env v
        let mut ok := true
        for c in [ct] do
          if ok then ok ← isTrue c env (eval c env)
        if ok then
          (do let _ ← call (.builtin "list.append") [acc, ← eval elt env])
        again (.compLoop (E2 elt x y px py it1 it2 ct scope pos) 1 it acc env)) := by rfl

section
variable {prog : Program} {w : World} {A : Around} {R : Result → Shared → Prop} {s : Shared}

theorem codeAny_compStart_any {elt : PySem.Expr} {x y : Str} {px py : Pos} {it1 it2 ct : PySem.Expr} {scope : Scope} {pos : Pos} {it acc : Value} {env : Env} {k : Nat} (hk : k = 0 ∨ k = 1)
    (h0 : codeAny (model prog w) A (.compLoop (E2 elt x y px py it1 it2 ct scope pos) k it acc env) R s)
    (h : wpAny (model prog w) A (pyIter it) (fun it' s' => codeAny (model prog w) A (.compLoop (E2 elt x y px py it1 it2 ct scope pos) k it' acc env) R s') (notedBy (model prog w) A env fun x s' => R (.error x) s') s) :
    codeAny (model prog w) A (.compStart (E2 elt x y px py it1 it2 ct scope pos) k it acc env) R s := by
  refine codeAny_of_tree ?_
  show wpAny _ _ ((compStart (E2 elt x y px py it1 it2 ct scope pos) k it acc env).onRaise (fun x => do noteFrame x env; standAt theWindowsPlace)) _ _ s
  refine wpAny_notedAt ?_
  unfold compStart
  have e1 : ((clausesOf (E2 elt x y px py it1 it2 ct scope pos))[k]?).elim false (·.is_async != 0) = false := by rcases hk with rfl | rfl <;> rfl
  rw [e1]
  show wpAny _ _ (ask >>= _) _ _ s
  refine wpAny_bind (wpAny_askSetting (wpAny_ite ?_))
  split
  · first
      | exact wpAny_bind (wpAny_pure (wpAny_pure (And.intro rfl h0)))
      | exact wpAny_pure (And.intro rfl h0)
  · refine wpAny_bind (wpAny_rule ?_)
    rcases hk with rfl | rfl
    · show wpAny _ _ (standAt it1.pos >>= _) _ _ s
      exact wpAny_bind (wpAny_standAt (wpAny_bind (wpAny_mono h (fun it' s' h' => wpAny_pure (And.intro rfl h')) fun _ _ x => x)))
    · show wpAny _ _ (standAt it2.pos >>= _) _ _ s
      exact wpAny_bind (wpAny_standAt (wpAny_bind (wpAny_mono h (fun it' s' h' => wpAny_pure (And.intro rfl h')) fun _ _ x => x)))

theorem loop_0 {elt : PySem.Expr} {x y : Str} {px py : Pos} {it1 it2 ct : PySem.Expr} {scope : Scope} {pos : Pos} {it acc : Value} {env : Env} (I : Nat → Shared → Prop)
    (turn : ∀ n s, I n s → wpAny (model prog w) A (pyNext it) (fun r s₁ => match r with
      | none => R (.ok .next) s₁
      | some v => wpAny (model prog w) A (assign (.Name x px) env v) (fun _ s₂ => wpAny (model prog w) A (eval it2 env) (fun xv s₃ => wpAny (model prog w) A (pyIter xv) (fun i2 s₄ =>
          codeAny (model prog w) (A.mark none) (.compStart (E2 elt x y px py it1 it2 ct scope pos) 1 i2 acc env) (fun r s₅ => match r with | .ok _ => ∃ m, m < n ∧ I m s₅ | .error e => cameBackBy (model prog w) A env (notedBy (model prog w) A env fun e s' => R (.error e) s') e s₅) s₄)
          (notedBy (model prog w) A env fun e s' => R (.error e) s') s₃)
          (notedBy (model prog w) A env fun e s' => R (.error e) s') s₂) (notedBy (model prog w) A env fun e s' => R (.error e) s') s₁) (notedBy (model prog w) A env fun e s' => R (.error e) s') s)
    (n : Nat) (h : I n s) (hs : ∀ x, foldedSetIterable it2 env x = pure x := by intro _; rfl) :
    codeAny (model prog w) A (.compLoop (E2 elt x y px py it1 it2 ct scope pos) 0 it acc env) R s := by
  refine codeAny_loop rfl I (fun n s hI => ?_) n h
  show wpAny _ _ ((compTurn (E2 elt x y px py it1 it2 ct scope pos) 0 it acc env).onRaise (fun x => do noteFrame x env; theTreesLotGoes x)) _ _ s
  refine wpAny_noted ?_
  rw [compTurn_0]
  refine wpAny_bind (wpAny_standAt (wpAny_bind (wpAny_mono (turn n s hI) (fun r s₁ h₁ => ?_) fun _ _ h' => h')))
  cases r with
  | none => exact wpAny_pure h₁
  | some v =>
    refine wpAny_bind (wpAny_of_eq rfl ?_)
    refine wpAny_bind (wpAny_mono h₁ (fun _ s₂ h₂ => ?_) fun _ _ h' => h')
    refine wpAny_bind (wpAny_mono h₂ (fun xv s₃ h₃ => ?_) fun _ _ h' => h')
    refine wpAny_bind (wpAny_standAt (wpAny_bind (wpAny_of_eq (hs xv) ?_)))
    refine wpAny_bind (wpAny_holding (wpAny_mono h₃ (fun i2 s₄ h₄ => ?_) fun _ _ h' => h'))
    refine wpAny_bind (wpAny_runOwn (codeAny_mono h₄ (fun r s₅ h₅ => ?_)))
    cases r with
    | error e => exact h₅
    | ok f => exact wpAny_pure ⟨rfl, h₅⟩

theorem loop_1 {elt : PySem.Expr} {x y : Str} {px py : Pos} {it1 it2 ct : PySem.Expr} {scope : Scope} {pos : Pos} {it acc : Value} {env : Env} (I : Nat → Shared → Prop)
    (turn : ∀ n s, I n s → wpAny (model prog w) A (pyNext it) (fun r s₁ => match r with
      | none => R (.ok .next) s₁
      | some v => wpAny (model prog w) A (assign (.Name y py) env v) (fun _ s₂ =>
          wpAny (model prog w) A (isTrue ct env (eval ct env)) (fun ok s₃ =>
            if ok = true then wpAny (model prog w) A (eval elt env) (fun x s₄ =>
              wpAny (model prog w) A (call (.builtin "list.append") [acc, x]) (fun _ s₅ => ∃ m, m < n ∧ I m s₅) (notedBy (model prog w) A env fun e s' => R (.error e) s') s₄) (notedBy (model prog w) A env fun e s' => R (.error e) s') s₃
            else ∃ m, m < n ∧ I m s₃) (notedBy (model prog w) A env fun e s' => R (.error e) s') s₂) (notedBy (model prog w) A env fun e s' => R (.error e) s') s₁) (notedBy (model prog w) A env fun e s' => R (.error e) s') s)
    (n : Nat) (h : I n s) :
    codeAny (model prog w) A (.compLoop (E2 elt x y px py it1 it2 ct scope pos) 1 it acc env) R s := by
  refine codeAny_loop rfl I (fun n s hI => ?_) n h
  show wpAny _ A ((compTurn (E2 elt x y px py it1 it2 ct scope pos) 1 it acc env).onRaise (fun x => do noteFrame x env; theTreesLotGoes x)) _ _ s
  refine wpAny_noted ?_
  rw [compTurn_1]
  refine wpAny_bind (wpAny_standAt (wpAny_bind (wpAny_mono (turn n s hI) (fun r s₁ h₁ => ?_) fun _ _ h' => h')))
  cases r with
  | none => exact wpAny_pure h₁
  | some v =>
    refine wpAny_bind (wpAny_of_eq rfl ?_)
    refine wpAny_bind (wpAny_mono h₁ (fun _ s₂ h₂ => wpAny_bind (wpAny_mono (wpAny_tests_one h₂) (fun ok s₃ h₃ => ?_) fun _ _ h' => h')) fun _ _ h' => h')
    cases ok with
    | false => exact wpAny_pure ⟨rfl, h₃⟩
    | true =>
      exact wpAny_bind (wpAny_bind (wpAny_mono h₃ (fun x s₄ h₄ => wpAny_bind (wpAny_mono h₄ (fun _ s₅ h₅ => wpAny_pure (wpAny_pure ⟨rfl, h₅⟩)) fun _ _ h' => h')) fun _ _ h' => h'))
end
end Mine

namespace Mine
open PySem PySem.W PyProof.Rows PySem.Calls PyProof.Rows.LCg PyProof.Rows.LCt
set_option maxRecDepth 100000
set_option linter.unusedVariables false

theorem ty_ne2 {a b : String} (h : a ≠ b) : Value.type a ≠ Value.type b := fun q => h (Value.type.inj q)
def Kt (h h' : Heap) : Prop := ∀ b o its n, o.cls = .type "tuple" → o.data = .seq its n → h.get? b = some o → h'.get? b = some o
theorem Kt.of_keep {h h' : Heap} (k : ∀ b o, h.get? b = some o → h'.get? b = some o) : Kt h h' := fun b o _ _ _ _ e => k b o e
theorem Kt.of_but {h h' : Heap} {I : Addr} {oI : Obj} (e0 : h.get? I = some oI) (hI : oI.cls ≠ .type "tuple" ∨ ∀ its n, oI.data ≠ .seq its n) (k : ∀ b o, b ≠ I → h.get? b = some o → h'.get? b = some o) : Kt h h' := fun b o its n h1 h2 e => by
  by_cases hb : b = I
  · subst hb
    rw [e0] at e; cases e
    rcases hI with q | q
    · exact absurd h1 q
    · exact absurd h2 (q _ _)
  · exact k b o hb e

theorem rsm2 {n : Nat} (h : n < 1000) : Builtin.Range.small 0 n 1 = true := by
  have hs : 0 ≤ Builtin.Range.rangeSize 0 n 1 ∧ Builtin.Range.rangeSize 0 n 1 < 2 ^ 31 := by
    unfold Builtin.Range.rangeSize
    simp only [show (1 : Int) > 0 by decide, if_true, Int.ediv_one]
    split <;> (first | lia | omega)
  unfold Builtin.Range.small Builtin.Range.rangeFitsLong
  simp only [show (1 : Int) > 0 by decide, if_true, Bool.and_eq_true, Bool.or_eq_true, decide_eq_true_eq]
  refine ⟨⟨⟨⟨?_, ?_⟩, ?_⟩, ?_⟩, .inr ?_⟩ <;> constructor <;> (first | lia | omega)
theorem rsz2 (n : Nat) : Builtin.Range.rangeSize 0 n 1 = (n : Int) := by
  unfold Builtin.Range.rangeSize
  simp only [show (1 : Int) > 0 by decide, if_true, Int.ediv_one]
  split <;> (first | lia | omega)

section
variable {prog : Program} {w : World} {A : Around} {E : Value → Shared → Prop} {s : Shared} {h₀ : Heap} {L : Addr} {m : Str → Option Value} {env : Env}

def L2a (s : Shared) (h₀ : Heap) (L : Addr) (I : Addr) (C : Addr) (D : Addr) (m : Str → Option Value) (news : List (Addr × Obj)) (n1 : Nat) (n2 : Nat) (J : Nat → Nat → List Value → Heap → Prop) (k : Nat) (s' : Shared) : Prop := ∃ h' tk i ys m', s' = { s with heap := h', toks := tk } ∧ i ≤ n1 ∧ k = n1 + 1 - i ∧ ys.length ≤ i * n2 ∧ IsRangeIter h' I (0 + (i : Nat) * 1) ((n1 : Int) - (i : Nat)) 1 ∧ Fr h₀ L h' m ∧ h'.Ns C m' ∧ h'.get? D = some (lst ys) ∧ News h₀ L h' news ∧ J i 0 ys h'
def L2b (s : Shared) (h₀ : Heap) (L : Addr) (I : Addr) (C : Addr) (D : Addr) (I2 : Addr) (x : Str) (i : Nat) (m : Str → Option Value) (news : List (Addr × Obj)) (n1 : Nat) (n2 : Nat) (J : Nat → Nat → List Value → Heap → Prop) (k : Nat) (s' : Shared) : Prop := ∃ h' tk j zs m', s' = { s with heap := h', toks := tk } ∧ j ≤ n2 ∧ k = n2 + 1 - j ∧ zs.length ≤ i * n2 + j ∧ IsRangeIter h' I2 (0 + (j : Nat) * 1) ((n2 : Int) - (j : Nat)) 1 ∧ IsRangeIter h' I (0 + ((i + 1 : Nat) : Nat) * 1) ((n1 : Int) - ((i + 1 : Nat) : Nat)) 1 ∧ Fr h₀ L h' m ∧ h'.Ns C m' ∧ (∃ t, m' x = some (.int ((0 : Int) + (i : Int)) t)) ∧ h'.get? D = some (lst zs) ∧ News h₀ L h' news ∧ J i j zs h'
theorem ListComp_2 {elt : PySem.Expr} {x y : Str} {px py : Pos} {it1 it2 ct : PySem.Expr} {scope : Scope} {cl : List (Str × Addr)} {pos : Pos} {Q : Value → Shared → Prop} {news : List (Addr × Obj)} {n1 n2 : Nat}
    (J : Nat → Nat → List Value → Heap → Prop) (F₀ : Fr h₀ L s.heap m) (hh : A.handled = none) (hn1 : n1 < 1000) (hn2 : n2 < 1000)
    (hclos : closureFor scope env = pure cl) (hcell : ∀ z ∈ scope.names, z.2 ≠ .cell) (hkind : scope.kind = .function)
    (hnames : ∀ z ∈ scope.names, z.2 = .local → scope.names.lookup z.1 = some .local) (hx : scope.names.lookup x = some .local) (hy : scope.names.lookup y = some .local) (hxy : x ≠ y)
    (stable : ∀ i j ys h h', J i j ys h → Kt h h' → J i j ys h') (next : ∀ i ys h, J i n2 ys h → J (i + 1) 0 ys h)
    (h : wpAny (model prog w) A (eval it1 env) (fun xv s₁ => ∃ r t u v h tk, xv = .ref r ∧ s₁ = { s with heap := h, toks := tk } ∧ Fr h₀ L h m ∧ News h₀ L h news ∧ IsRange h r 0 n1 1 t u v ∧ J 0 0 [] h) E s)
    (inner : ∀ i I1 oI1 C oC D ys m₂ h tk (E' : Value → Shared → Prop), i < n1 → J i 0 ys h → NsObj oC m₂ → (∃ t, m₂ x = some (.int ((0 : Int) + (i : Int)) t)) → Fr h₀ L h m → News h₀ L h ((I1, oI1) :: (C, oC) :: (D, lst ys) :: news) → Off3 I1 C D news → ((@Ne Nat I1 C) ∧ (@Ne Nat I1 D) ∧ (@Ne Nat C D)) →
      wpAny (model prog w) A (eval it2 (compEnvC scope cl C env)) (fun xv s₁ => ∃ r t u v h' tk', xv = .ref r ∧ s₁ = { s with heap := h', toks := tk' } ∧ Fr h₀ L h' m ∧ News h₀ L h' ((I1, oI1) :: (C, oC) :: (D, lst ys) :: news) ∧ IsRange h' r 0 n2 1 t u v ∧ J i 0 ys h') E' { s with heap := h, toks := tk })
    (turn : ∀ i j I2 oI2 I1 oI1 C oC D ys m₂ h tk (E' : Value → Shared → Prop), i < n1 → j < n2 → J i j ys h → NsObj oC m₂ → (∃ t, m₂ x = some (.int ((0 : Int) + (i : Int)) t)) → (∃ t, m₂ y = some (.int ((0 : Int) + (j : Int)) t)) → Fr h₀ L h m → News h₀ L h ((I2, oI2) :: (I1, oI1) :: (C, oC) :: (D, lst ys) :: news) →
      wpAny (model prog w) A (isTrue ct (compEnvC scope cl C env) (eval ct (compEnvC scope cl C env))) (fun ok s' => if ok = true then
        wpAny (model prog w) A (eval elt (compEnvC scope cl C env)) (fun v s₁ => ∃ h' tk', s₁ = { s with heap := h', toks := tk' } ∧ Fr h₀ L h' m ∧ News h₀ L h' ((I2, oI2) :: (I1, oI1) :: (C, oC) :: (D, lst ys) :: news) ∧ J i (j + 1) (ys ++ [v]) h') E' s'
        else ∃ h' tk', s' = { s with heap := h', toks := tk' } ∧ Fr h₀ L h' m ∧ News h₀ L h' ((I2, oI2) :: (I1, oI1) :: (C, oC) :: (D, lst ys) :: news) ∧ J i (j + 1) ys h') E' { s with heap := h, toks := tk })
    (fin : ∀ D ys h tk, J n1 0 ys h → Fr h₀ L h m → News h₀ L h ((D, lst ys) :: news) → Q (.ref D) { s with heap := h, toks := tk })
    (hs : ∀ x, foldedSetIterable it1 env x = pure x := by intro _; rfl) (hs2 : ∀ C x, foldedSetIterable it2 (compEnvC scope cl C env) x = pure x := by intro _ _; rfl) :
    wpAny (model prog w) A (eval (E2 elt x y px py it1 it2 ct scope pos) env) Q E s := by
  rw [eval_ListComp]
  refine wpAny_comprehension_free (use := none) rfl hs hclos hkind hnames (wpAny_mono h (fun xv s₁ h₁ => ?_) fun _ _ e => e)
  obtain ⟨r, t, u, v, h1, tk1, rfl, rfl, F1, N1, hR, j1⟩ := h₁
  refine wpAny_pyIter_range hR (rsm2 (by (first | lia | omega))) ?_
  rw [rsz2]
  have hst0 : (h1.push { cls := .type "range_iterator", data := .fields #[rawInt 0, rawInt (n1 : Int), rawInt 1] }).get? h1.objs.size = some { cls := .type "range_iterator", data := .fields #[rawInt 0, rawInt (n1 : Int), rawInt 1] } := Heap.get?_push_size _ rfl
  have up : ∀ b o, h1.get? b = some o → (h1.push { cls := .type "range_iterator", data := .fields #[rawInt 0, rawInt (n1 : Int), rawInt 1] }).get? b = some o := fun b o e => Heap.get?_push_of_some _ e
  have F2 := F1.keeps up
  have N2 := N1.grown up
  have j2 := stable _ _ _ _ _ j1 (Kt.of_keep up)
  have hIL : L ≠ h1.objs.size := Nat.ne_of_lt F1.ns.lt
  have hI0 : h₀.get? h1.objs.size = none := next_is_new F1
  have hoff : ∀ p ∈ news, p.1 ≠ h1.objs.size := fun p hp => Nat.ne_of_lt (Heap.lt_size (N1 p hp).1)
  have hIlt : h1.objs.size < (h1.push { cls := .type "range_iterator", data := .fields #[rawInt 0, rawInt (n1 : Int), rawInt 1] }).objs.size := by rw [Heap.size_push]; exact Nat.lt_succ_self _
  generalize h1.objs.size = I at hst0 hIL hI0 hoff hIlt ⊢
  generalize h1.push { cls := .type "range_iterator", data := .fields #[rawInt 0, rawInt (n1 : Int), rawInt 1] } = hp at hst0 up F2 N2 j2 hIlt ⊢
  clear F1 N1 hR j1 up
  refine wpAny_newObj_type (wpAny_newFunctionEnv hcell (by intro z hz; simp at hz) (fun h₂ hns₁ hsb₁ => ?_) hkind)
  dsimp only at hns₁ hsb₁ ⊢
  generalize hH2 : hp.push { cls := .type "list", dict := none, data := .seq ([] : List Value).toArray } = H2 at hns₁ hsb₁ ⊢
  have hC : H2.objs.size = hp.objs.size + 1 := by rw [← hH2, Heap.size_push]
  generalize hCg : H2.objs.size = C at hns₁ hsb₁ hC ⊢
  have hDC : hp.objs.size ≠ C := by rw [hC]; exact Nat.ne_of_lt (Nat.lt_succ_self _)
  have below : ∀ b, b < hp.objs.size → b ≠ C ∧ b ≠ hp.objs.size := fun b hb => ⟨by rw [hC]; exact Nat.ne_of_lt (Nat.lt_succ_of_lt hb), Nat.ne_of_lt hb⟩
  have old : ∀ b o, hp.get? b = some o → h₂.get? b = some o := fun b o e => hsb₁.extBut b o (below b (Heap.lt_size e)).1 (Heap.get?_push_of_some _ (hH2 ▸ Heap.get?_push_of_some _ e))
  have hacc : h₂.get? hp.objs.size = some (lst []) := hsb₁.extBut _ _ hDC (Heap.get?_push_of_some _ (hH2 ▸ Heap.get?_push_size _ rfl))
  have fresh : ∀ a, hp.objs.size ≤ a → hp.get? a = none := fun a ha => by
    cases e : hp.get? a with
    | none => rfl
    | some o' => exact absurd (Heap.lt_size e) (Nat.not_lt.mpr ha)
  have fresh₀ : ∀ a, hp.objs.size ≤ a → h₀.get? a = none := fun a ha => by
    cases e : h₀.get? a with
    | none => rfl
    | some o' => have := F2.keep a o' e; rw [fresh a ha] at this; cases this
  have hD₀ : h₀.get? hp.objs.size = none := fresh₀ _ (Nat.le_refl _)
  have hC₀ : h₀.get? C = none := fresh₀ _ (by rw [hC]; exact Nat.le_succ _)
  have hLlt : L < hp.objs.size := F2.ns.lt
  have hDL : hp.objs.size ≠ L := Ne.symm (below L hLlt).2
  have hCL : C ≠ L := Ne.symm (below L hLlt).1
  have hCI : I ≠ C := (below I hIlt).1
  have hDI : I ≠ hp.objs.size := (below I hIlt).2
  have offs : ∀ p ∈ news, p.1 ≠ I ∧ p.1 ≠ C ∧ p.1 ≠ hp.objs.size := fun p hq => ⟨hoff p hq, (below _ (Heap.lt_size (N2 p hq).1)).1, (below _ (Heap.lt_size (N2 p hq).1)).2⟩
  have F3 := F2.keeps old
  have N3 := N2.grown old
  have j3 := stable _ _ _ _ _ j2 (Kt.of_keep old)
  have st3 : h₂.get? I = some { cls := .type "range_iterator", data := .fields #[rawInt 0, rawInt (n1 : Int), rawInt 1] } := old _ _ hst0
  generalize hp.objs.size = D at hDC hacc hD₀ hDL hDI offs below ⊢
  clear fresh fresh₀ F2 N2 j2 hst0 old hsb₁ hIlt hLlt below hoff hH2 hCg hC
  have W1 := range_walks (prog := prog) (w := w) (A := A) (I := I) hh 0 n1
  have hlen : ∀ i j : Nat, i < n1 → j ≤ n2 → i * n2 + j ≤ 1000 * 1000 := fun i j hi hj => by
    have : i * n2 ≤ 999 * n2 := Nat.mul_le_mul_right _ (by (first | lia | omega))
    (first | lia | omega)
  have key : ∀ s₃ : Shared, (∃ tk, s₃ = { s with heap := h₂, toks := tk }) →
      codeAny (model prog w) A (.compLoop (E2 elt x y px py it1 it2 ct scope pos) 0 (.ref I) (.ref D) (compEnvC scope cl C env)) (compPost (model prog w) A E none Q (.ref D) C) s₃ := by
    rintro s₃ ⟨tk3, rfl⟩
    refine loop_0 (env := compEnvC scope cl C env)
      (L2a s h₀ L I C D m news n1 n2 J) ?_ (n1 + 1)
      ⟨h₂, tk3, 0, [], _, rfl, Nat.zero_le _, rfl, by simp, by show h₂.get? I = _; simpa using st3, F3, hns₁, hacc, N3, j3⟩ (hs := hs2 C)
    rintro k s' ⟨h', tk, i, ys, m', rfl, hi, rfl, hyl, hst', F', hn', hD', N', j'⟩
    by_cases hlt : i < n1
    · refine W1.item i _ _ _ hlt hst' fun v h3 tk₂ hPv hst₂ hk₂ => ?_
      obtain ⟨tv, rfl⟩ := hPv
      have hk3 : ∀ b o, b ≠ I → h'.get? b = some o → h3.get? b = some o := fun b o hb e => hk₂ b o (by simpa using hb) e
      refine wpAny_assign_Name (wpAny_storeName_local (lookup_relabel_local hx) (hn'.at' fun o e => hk3 _ o (Ne.symm hCI) e) (fun h4 hn₄ hs₄ => ?_) (by simp [compEnvC, relabel, hkind]))
      have F4 : Fr h₀ L h4 m := (fr_but F' hk₂ hIL hI0).change hs₄ hCL hC₀
      have N4 : News h₀ L h4 news := fun p hp => by
        have z := news_but N' hk₂ (fun p hp => (offs p hp).1) p hp
        exact ⟨hs₄.extBut _ _ (offs p hp).2.1 z.1, z.2⟩
      have hI4 : IsRangeIter h4 I (0 + ((i + 1 : Nat) : Nat) * 1) ((n1 : Int) - ((i + 1 : Nat) : Nat)) 1 := (hs₄.2 I hCI).trans hst₂
      have hD4 : h4.get? D = some (lst ys) := hs₄.extBut _ _ hDC (hk3 _ _ (Ne.symm hDI) hD')
      obtain ⟨oC, heC, hoC⟩ := ns_obj hn₄
      obtain ⟨oC', heC', hoC'⟩ := ns_obj (hn'.at' fun o e => hk3 _ o (Ne.symm hCI) e)
      have j4 : J i 0 ys h4 := stable _ _ _ _ _ (stable _ _ _ _ _ j' (Kt.of_but hst' (.inl (ty_ne2 (by decide))) hk3)) (Kt.of_but heC' (.inr (by obtain ⟨es, ep, q, _⟩ := hoC'; rw [q]; intro _ _ z; cases z)) fun b o hb e => hs₄.extBut b o hb e)
      have N5 : News h₀ L h4 ((I, _) :: (C, oC) :: (D, lst ys) :: news) := fun p hp => by
        rcases List.mem_cons.mp hp with rfl | hp
        · exact ⟨hI4, Ne.symm hIL, hI0⟩
        · rcases List.mem_cons.mp hp with rfl | hp
          · exact ⟨heC, hCL, hC₀⟩
          · rcases List.mem_cons.mp hp with rfl | hp
            · exact ⟨hD4, hDL, hD₀⟩
            · exact N4 p hp
      refine wpAny_mono (inner i I _ C oC D ys _ h4 _ _ hlt j4 hoC ⟨tv, by simp⟩ F4 N5 (Off3.of offs) ⟨hCI, hDI, Ne.symm hDC⟩) (fun xv s₅ h₅ => ?_) fun _ _ e => e
      obtain ⟨r, t, u, v, h5, tk5, rfl, rfl, F5, N5', hR5, j5⟩ := h₅
      refine wpAny_pyIter_range hR5 (rsm2 (by (first | lia | omega))) ?_
      rw [rsz2]
      have up5 : ∀ b o, h5.get? b = some o → (h5.push { cls := .type "range_iterator", data := .fields #[rawInt 0, rawInt (n2 : Int), rawInt 1] }).get? b = some o := fun b o e => Heap.get?_push_of_some _ e
      have st5 : (h5.push { cls := .type "range_iterator", data := .fields #[rawInt 0, rawInt (n2 : Int), rawInt 1] }).get? h5.objs.size = some { cls := .type "range_iterator", data := .fields #[rawInt 0, rawInt (n2 : Int), rawInt 1] } := Heap.get?_push_size _ rfl
      have F6 := F5.keeps up5
      have N6 := N5'.grown up5
      have j6 := stable _ _ _ _ _ j5 (Kt.of_keep up5)
      have hJL : L ≠ h5.objs.size := Nat.ne_of_lt F5.ns.lt
      have hJ0 : h₀.get? h5.objs.size = none := next_is_new F5
      have Joff : ∀ p ∈ (I, _) :: (C, oC) :: (D, lst ys) :: news, p.1 ≠ h5.objs.size := fun p hp => Nat.ne_of_lt (Heap.lt_size (N5' p hp).1)
      generalize h5.objs.size = I2 at st5 hJL hJ0 Joff ⊢
      generalize h5.push { cls := .type "range_iterator", data := .fields #[rawInt 0, rawInt (n2 : Int), rawInt 1] } = h6 at st5 F6 N6 j6 ⊢
      clear F5 N5' j5 hR5 up5
      have hIJ : I ≠ I2 := Joff _ (List.Mem.head _)
      have hCJ : C ≠ I2 := Joff (C, oC) (by simp)
      have hDJ : D ≠ I2 := Joff (D, lst ys) (by simp)
      have hnJ : ∀ p ∈ news, p.1 ≠ I2 := fun p hp => Joff p (by simp [hp])
      have hA' : (A.mark none).handled = none := hh
      have W2 := range_walks (prog := prog) (w := w) (A := A.mark none) (I := I2) hA' 0 n2
      have key2 : ∀ s₃ : Shared, (∃ tk, s₃ = { s with heap := h6, toks := tk }) →
          codeAny (model prog w) (A.mark none) (.compLoop (E2 elt x y px py it1 it2 ct scope pos) 1 (.ref I2) (.ref D) (compEnvC scope cl C env)) (fun r s₅ => match r with
            | .ok _ => ∃ m_1, m_1 < n1 + 1 - i ∧ L2a s h₀ L I C D m news n1 n2 J m_1 s₅
            | .error e => cameBackBy (model prog w) A (compEnvC scope cl C env) (notedBy (model prog w) A (compEnvC scope cl C env) fun e s' => compPost (model prog w) A E none Q (.ref D) C (.error e) s') e s₅) s₃ := by
        rintro s₃ ⟨tk6, rfl⟩
        refine loop_1 (env := compEnvC scope cl C env)
          (L2b s h₀ L I C D I2 x i m news n1 n2 J) ?_ (n2 + 1)
          ⟨h6, tk6, 0, ys, _, rfl, Nat.zero_le _, rfl, by (first | lia | omega), by show h6.get? I2 = _; simpa using st5, (N6 (I, _) (by simp)).1, F6, hoC.ns (N6 (C, oC) (by simp)).1, ⟨tv, by simp⟩, (N6 (D, lst ys) (by simp)).1, (fun p hp => N6 p (by simp [hp])), j6⟩
        rintro k s' ⟨h7, tk7, j, zs, m7, rfl, hj, rfl, hzl, st7, st7', F7, hn7, ⟨tx, hx7⟩, hD7, N7, j7⟩
        by_cases hlt2 : j < n2
        · refine W2.item j _ _ _ hlt2 st7 fun v2 h8 tk8 hPv2 st8 hk8 => ?_
          obtain ⟨tv2, rfl⟩ := hPv2
          have hk9 : ∀ b o, b ≠ I2 → h7.get? b = some o → h8.get? b = some o := fun b o hb e => hk8 b o (by simpa using hb) e
          refine wpAny_assign_Name (wpAny_storeName_local (lookup_relabel_local hy) (hn7.at' fun o e => hk9 _ o hCJ e) (fun h9 hn9 hs9 => ?_) (by simp [compEnvC, relabel, hkind]))
          have F9 : Fr h₀ L h9 m := (fr_but F7 hk8 hJL hJ0).change hs9 hCL hC₀
          have z8 := news_but N7 hk8 hnJ
          have hI9 := (hs9.2 I hCI).trans (hk9 _ _ hIJ st7')
          have hI29 : IsRangeIter h9 I2 (0 + ((j + 1 : Nat) : Nat) * 1) ((n2 : Int) - ((j + 1 : Nat) : Nat)) 1 := (hs9.2 I2 hCJ.symm).trans st8
          have hD9 : h9.get? D = some (lst zs) := hs9.extBut _ _ hDC (hk9 _ _ hDJ hD7)
          obtain ⟨o9, he9, ho9⟩ := ns_obj hn9
          obtain ⟨o9', he9', ho9'⟩ := ns_obj (hn7.at' fun o e => hk9 _ o hCJ e)
          have j9 : J i j zs h9 := stable _ _ _ _ _ (stable _ _ _ _ _ j7 (Kt.of_but st7 (.inl (ty_ne2 (by decide))) hk9)) (Kt.of_but he9' (.inr (by obtain ⟨es, ep, q, _⟩ := ho9'; rw [q]; intro _ _ z; cases z)) fun b o hb e => hs9.extBut b o hb e)
          have N9 : News h₀ L h9 ((I2, _) :: (I, _) :: (C, o9) :: (D, lst zs) :: news) := fun p hp => by
            rcases List.mem_cons.mp hp with rfl | hp
            · exact ⟨hI29, hJL.symm, hJ0⟩
            · rcases List.mem_cons.mp hp with rfl | hp
              · exact ⟨hI9, Ne.symm hIL, hI0⟩
              · rcases List.mem_cons.mp hp with rfl | hp
                · exact ⟨he9, hCL, hC₀⟩
                · rcases List.mem_cons.mp hp with rfl | hp
                  · exact ⟨hD9, hDL, hD₀⟩
                  · exact ⟨hs9.extBut _ _ (offs p hp).2.1 (z8 p hp).1, (z8 p hp).2⟩
          refine wpAny_mono (turn i j I2 _ I _ C o9 D zs _ h9 _ _ hlt hlt2 j9 ho9 ⟨tx, by simp [hxy, hx7]⟩ ⟨tv2, by simp⟩ F9 N9) (fun ok s₄ h₄ => ?_) fun _ _ e => e
          cases ok with
          | true =>
            simp only [if_true] at h₄ ⊢
            refine wpAny_mono h₄ (fun v s₅ h₅ => ?_) fun _ _ e => e
            obtain ⟨ha, tka, rfl, Fa, Na, ja⟩ := h₅
            have zD := (Na (D, lst zs) (by simp)).1
            refine append_at (hsz := by
              show zs.toArray.size ≤ sizeLine
              rw [List.size_toArray, sizeLine_eq]
              have := hlen i j hlt hj
              (first | lia | omega)) zD fun hb hsb hDb => ?_
            refine ⟨n2 + 1 - (j + 1), by (first | lia | omega), hb, tka, j + 1, zs ++ [v], _, rfl, hlt2, rfl, by rw [List.length_append, List.length_singleton]; (first | lia | omega), ?_, ?_, Fa.change hsb hDL hD₀, (ho9.ns (Na (C, o9) (by simp)).1).sameBut hsb (Ne.symm hDC), ⟨tx, by simp [hxy, hx7]⟩, hDb.trans (congrArg some (lst_snoc zs v)), fun p hp => ?_, ?_⟩
            · exact hsb.extBut _ _ (Ne.symm hDJ) (Na (I2, _) (by simp)).1
            · exact hsb.extBut _ _ hDI (Na (I, _) (by simp)).1
            · have z := Na p (by simp [hp])
              exact ⟨hsb.extBut _ _ (offs p hp).2.2 z.1, z.2⟩
            · exact stable _ _ _ _ _ ja (Kt.of_but zD (.inl (ty_ne2 (by decide))) fun b o hb e => hsb.extBut b o hb e)
          | false =>
            simp only [Bool.false_eq_true, if_false] at h₄ ⊢
            obtain ⟨ha, tka, rfl, Fa, Na, ja⟩ := h₄
            exact ⟨n2 + 1 - (j + 1), by (first | lia | omega), ha, tka, j + 1, zs, _, rfl, hlt2, rfl, by (first | lia | omega), (Na (I2, _) (by simp)).1, (Na (I, _) (by simp)).1, Fa, ho9.ns (Na (C, o9) (by simp)).1, ⟨tx, by simp [hxy, hx7]⟩, (Na (D, lst zs) (by simp)).1, (fun p hp => Na p (by simp [hp])), ja⟩
        · obtain rfl : j = n2 := Nat.le_antisymm hj (Nat.not_lt.mp hlt2)
          refine W2.done _ _ _ st7 fun h8 tk8 hk8 => ?_
          have hk9 : ∀ b o, b ≠ I2 → h7.get? b = some o → h8.get? b = some o := fun b o hb e => hk8 b o (by simpa using hb) e
          have e1 : (i + 1) * j = i * j + j := by rw [Nat.add_mul, Nat.one_mul]
          refine ⟨n1 + 1 - (i + 1), by (first | lia | omega), h8, tk8, i + 1, zs, m7, rfl, hlt, rfl, by (first | lia | omega), hk9 _ _ hIJ st7', fr_but F7 hk8 hJL hJ0, hn7.at' fun o e => hk9 _ o hCJ e, hk9 _ _ hDJ hD7, news_but N7 hk8 hnJ, next _ _ _ (stable _ _ _ _ _ j7 (Kt.of_but st7 (.inl (ty_ne2 (by decide))) hk9))⟩
      exact codeAny_compStart_any (.inr rfl) (key2 _ ⟨_, rfl⟩) (W2.self 0 _ _ _ (by show h6.get? I2 = _; simpa using st5) (key2 _ ⟨_, rfl⟩))
    · obtain rfl : i = n1 := Nat.le_antisymm hi (Nat.not_lt.mp hlt)
      refine W1.done _ _ _ hst' fun h3 tk₂ hk₂ => ?_
      have hk3 : ∀ b o, b ≠ I → h'.get? b = some o → h3.get? b = some o := fun b o hb e => hk₂ b o (by simpa using hb) e
      refine ⟨m', hn'.at' fun o e => hk3 _ o (Ne.symm hCI) e, fun h'' hs'' => ?_⟩
      have j3' := stable _ _ _ _ _ j' (Kt.of_but hst' (.inl (ty_ne2 (by decide))) hk3)
      obtain ⟨oC', heC', hoC'⟩ := ns_obj (hn'.at' fun o e => hk3 _ o (Ne.symm hCI) e)
      have j4 := stable _ _ _ _ _ j3' (Kt.of_but heC' (.inr (by obtain ⟨es, ep, q, _⟩ := hoC'; rw [q]; intro _ _ z; cases z)) fun b o hb e => hs''.extBut b o hb e)
      refine fin D ys h'' _ j4 ((fr_but F' hk₂ hIL hI0).change hs'' hCL hC₀) fun p hp => ?_
      rcases List.mem_cons.mp hp with rfl | hp
      · exact ⟨hs''.extBut _ _ hDC (hk3 _ _ (Ne.symm hDI) hD'), hDL, hD₀⟩
      · have z := news_but N' hk₂ (fun p hp => (offs p hp).1) p hp
        exact ⟨hs''.extBut _ _ (offs p hp).2.1 z.1, z.2⟩
  exact codeAny_compStart_any (.inl rfl) (key _ ⟨_, rfl⟩) (W1.self 0 _ _ _ (by show h₂.get? I = _; simpa using st3) (key _ ⟨_, rfl⟩))
end
end Mine

namespace Mine
open PySem PySem.W PyProof.Rows PySem.Calls
set_option maxRecDepth 100000

noncomputable def sdGo (x : Z) (sp : Nat) (pos : Nat) (zs : List Z) : List Z :=
  if sp < pos then
    if zlt x (zs.getD ((pos - 1) / 2) dZ) then sdGo x sp ((pos - 1) / 2) (zs.set pos (zs.getD ((pos - 1) / 2) dZ)) else zs.set pos x
  else zs.set pos x
termination_by pos
decreasing_by (first | lia | omega)

local macro_rules | `(tactic| walk_at "subscriptTail") => `(tactic| (k_here; (with_unfolding_all refine' my_item ?k1 ?k2 ?_ ?k4; (case k1 => exact News.get (by assumption) (by k_mem)); (case k4 => with_unfolding_all rfl); (case k2 => (first | lia | omega)); k_whole)))

local macro_rules | `(tactic| walk_at "binaryOp RShift int int") => `(tactic| (refine my_shr ?_))
def QSd (s : Shared) (g : Heap) (L' : Addr) (l : Addr) (zs : List Z) (sp : Nat) (pos : Nat) (f : Flow) (s' : Shared) : Prop := f = .next ∧ ∃ (h' : Heap) (tk : Nat) (zs' : List Z) (pos' n' : Nat) (m' : Str → Option Value), s' = { s with heap := h', toks := tk } ∧ pos' < zs.length ∧ zs'.length = zs.length ∧ zs'.set pos' (zs.getD pos dZ) = sdGo (zs.getD pos dZ) sp pos zs ∧ Fr g L' h' m' ∧ (m' "heap" = some (.ref l) ∧ (∃ t', m' "pos" = some (.int (pos' : Nat) t')) ∧ m' "newitem" = some (zs.getD pos dZ).1) ∧ News g L' h' [(l, W.listOf (itemsOf zs') n')]
def JSd (g : Heap) (k : Bool) (l : Addr) (zs : List Z) (sp : Nat) (pos : Nat) (t1 : Tok) (n : Nat) (m : Str → Option Value) (nx : List (Addr × Obj)) : Prop := ∃ zs' n', n < zs.length ∧ zs'.length = zs.length ∧ (∀ z ∈ zs', Itm g k z) ∧ sdGo (zs.getD pos dZ) sp n zs' = sdGo (zs.getD pos dZ) sp pos zs ∧ (m "heap" = some (.ref l) ∧ m "startpos" = some (.int sp t1) ∧ (∃ t', m "pos" = some (.int (n : Nat) t')) ∧ m "newitem" = some (zs.getD pos dZ).1) ∧ nx = [(l, W.listOf (itemsOf zs') n')]
set_option maxHeartbeats 4000000 in
theorem siftdown_spec {w : World} {A : Around} {s : Shared} {H : Heap} {Q : Value → Shared → Prop} (G : Gnd w H) (KH : Kp [] H s.heap) (hA : Arnd A 3)
    {k : Bool} {l : Addr} {zs : List Z} {n : Nat} (hl : s.heap.get? l = some (W.listOf (itemsOf zs) n)) (hz : ∀ z ∈ zs, Itm s.heap k z) (hH : H.get? l = none) {sp pos : Nat} {t1 t2 : Tok}
    (h2 : pos < zs.length) (h3 : zs.length < 64)
    (ret : ∀ h' tk n', h'.get? l = some (W.listOf (itemsOf (sdGo (zs.getD pos dZ) sp pos zs)) n') → Kp [l] s.heap h' → Q .none { s with heap := h', toks := tk }) :
    wpAny (model PG w) A (call (.ref 97) [.ref l, .int sp t1, .int pos t2]) Q (fun _ _ => False) s := by
  obtain ⟨p, loose, mean, mg, mb, T0⟩ := G.T
  have X0 := G.X
  have hd0 : PySem.Challenge.rw_in0189_01.foot = PySem.Challenge.rw_in0189_01.foot := rfl
  revert X0 hd0
  k_fill
  intro X0 _
  refine' enter (binds := [("heap", .ref l), ("startpos", .int sp t1), ("pos", .int pos t2)]) [(l, W.listOf (itemsOf zs) n)] G.X KH T0.nolimit ?hN ?hroom ?ho ?hcd ?hbind ?hloc ?h ?hcell ?hco ?hgen ?hk
  case ho => k_is
  case hN => intro p hp; simp only [List.mem_singleton] at hp; subst hp; exact ⟨hl, hH⟩
  case hroom => have := hA.dep; (first | lia | omega)
  case hcd => k_is
  case hbind => exact BindsTo.of_eq rfl
  case hloc => exact locs rfl
  case hcell => decide
  case hco => exact rfl
  case hgen => exact rfl
  case hk => exact rfl
  intro g L' h₁ hg Kg F N hlt
  have X := X0.keeps fun b o e => Kg b o (by simp) e
  have T := T0.keeps fun b o e => Kg b o (by simp) e
  clear X0 T0
  try k_fold
  (repeat' (first | (k_unfold; (try dsimp only)) | ((with_reducible show wpAny _ _ _ _ _ _); (fail_if_success (with_reducible show wpAny _ _ (exec (Stmt.While _ _ _ _) _) _ _ _)); (fail_if_success (with_reducible show wpAny _ _ (exec (Stmt.For _ _ _ _ _) _) _ _ _)); (first | walk1 | (dsimp only; walk1)); (try dsimp only)) | ((with_reducible show ite _ _ _); walk1; (try dsimp only))))
  rename News _ _ _ _ => N1
  rename Fr _ _ _ _ => F1
  have hzg : ∀ z ∈ zs, Itm g k z := fun z hm => (hz z hm).hide hl fun b o hb e => (hg b o).mpr ⟨by simpa using hb, e⟩
  have hx0 : Itm g k (zs.getD pos dZ) := hzg _ (getD_mem h2)
  refine cut (Q' := QSd s g L' l zs sp pos) ?_ ?_
  · refine While_inv2 (JSd g k l zs sp pos t1) (n₀ := pos) F1 N1 ⟨zs, n, h2, rfl, hzg, rfl, ⟨rfl, rfl, ⟨_, rfl⟩, rfl⟩, rfl⟩ ?_ PassesOwn.never
    rintro j m₁ nx h₂ tk₂ F2 N2 ⟨zs', n', hj, hlen, hit, hgo, ⟨a1, a2, ⟨t', a3⟩, a4⟩, rfl⟩
    have F3 := known4 F2 a1 a2 a3 a4
    clear F2 F1 N1 a1 a2 a3 a4
    rw [sdGo] at hgo
    (repeat' (first | (k_unfold; (try dsimp only)) | ((with_reducible show wpAny _ _ _ _ _ _); (fail_if_success (with_reducible show wpAny _ _ (exec (Stmt.While _ _ _ _) _) _ _ _)); (fail_if_success (with_reducible show wpAny _ _ (exec (Stmt.For _ _ _ _ _) _) _ _ _)); (first | walk1 | (dsimp only; walk1)); (try dsimp only)) | ((with_reducible show ite _ _ _); walk1; (try dsimp only))))
    · rename Fr _ _ _ _ => F4
      rename News _ _ _ _ => N4
      rename (sp : Int) < j => hlt2
      have hpp : ((j : Int) - 1) / 2 = (((j - 1) / 2 : Nat) : Int) := by (first | lia | omega)
      have hpt : (((j : Int) - 1) / 2).toNat = (j - 1) / 2 := by (first | lia | omega)
      rw [if_pos (by (first | lia | omega))] at hgo
      refine lt_itm (k := k) (hx0.mono F4.keep) ((hit _ (getD_mem (by (first | lia | omega)))).mono F4.keep) (by have := hA.uni; simp only [units_deeper]; (first | lia | omega)) fun tk => ?_
      dsimp only
      rw [hpt]
      cases hc : zlt (zs.getD pos dZ) (zs'.getD ((j - 1) / 2) dZ)
      rotate_left
      all_goals (repeat' (first | (k_unfold; (try dsimp only)) | ((with_reducible show wpAny _ _ _ _ _ _); (fail_if_success (with_reducible show wpAny _ _ (exec (Stmt.While _ _ _ _) _) _ _ _)); (fail_if_success (with_reducible show wpAny _ _ (exec (Stmt.For _ _ _ _ _) _) _ _ _)); (first | walk1 | (dsimp only; walk1)); (try dsimp only)) | ((with_reducible show ite _ _ _); walk1; (try dsimp only))))
      · rw [if_pos hc] at hgo
        refine my_set (zs'.getD ((j - 1) / 2) dZ) F4 N4 (.head (by simp)) (by (first | lia | omega)) (by rw [hpt]) fun h3 F3 N3 => ?_
        (repeat' (first | (k_unfold; (try dsimp only)) | ((with_reducible show wpAny _ _ _ _ _ _); (fail_if_success (with_reducible show wpAny _ _ (exec (Stmt.While _ _ _ _) _) _ _ _)); (fail_if_success (with_reducible show wpAny _ _ (exec (Stmt.For _ _ _ _ _) _) _ _ _)); (first | walk1 | (dsimp only; walk1)); (try dsimp only)) | ((with_reducible show ite _ _ _); walk1; (try dsimp only))))
        rename Fr _ _ _ _ => F5
        rename News _ _ _ _ => N5
        refine ⟨_, _, _, _, (j - 1) / 2, rfl, F5, N5, by (first | lia | omega), zs'.set j (zs'.getD ((j - 1) / 2) dZ), n', by (first | lia | omega), by simpa using hlen, ?_, hgo, ⟨rfl, rfl, ⟨_, by rw [← hpp]; rfl⟩, rfl⟩, by rfl⟩
        intro z hm
        rcases List.mem_or_eq_of_mem_set hm with hm | rfl
        · exact hit z hm
        · exact hit _ (getD_mem (by (first | lia | omega)))
      · rw [if_neg (by rw [hc]; decide)] at hgo
        exact ⟨rfl, _, _, zs', j, n', _, rfl, hj, hlen, hgo, F4, ⟨rfl, ⟨_, rfl⟩, rfl⟩, N4⟩
    · rename ¬ _ => hc
      rw [if_neg (by (first | lia | omega))] at hgo
      exact ⟨rfl, _, _, zs', j, n', _, rfl, hj, hlen, hgo, F3, ⟨rfl, ⟨_, rfl⟩, rfl⟩, N2⟩
  · rintro f s' ⟨rfl, h', tk, zs', pos', n', m', rfl, hp, hz', hr, F', ⟨a1, ⟨t', a2⟩, a3⟩, N'⟩
    have F3 := known3 F' a1 a2 a3
    clear F' F1 N1
    (repeat' (first | (k_unfold; (try dsimp only)) | ((with_reducible show wpAny _ _ _ _ _ _); (fail_if_success (with_reducible show wpAny _ _ (exec (Stmt.While _ _ _ _) _) _ _ _)); (fail_if_success (with_reducible show wpAny _ _ (exec (Stmt.For _ _ _ _ _) _) _ _ _)); (first | walk1 | (dsimp only; walk1)); (try dsimp only)) | ((with_reducible show ite _ _ _); walk1; (try dsimp only))))
    refine my_set (zs.getD pos dZ) F3 N' (.head (by simp)) (by (first | lia | omega)) rfl fun h3 F3 N3 => ?_
    (repeat' (first | (k_unfold; (try dsimp only)) | ((with_reducible show wpAny _ _ _ _ _ _); (fail_if_success (with_reducible show wpAny _ _ (exec (Stmt.While _ _ _ _) _) _ _ _)); (fail_if_success (with_reducible show wpAny _ _ (exec (Stmt.For _ _ _ _ _) _) _ _ _)); (first | walk1 | (dsimp only; walk1)); (try dsimp only)) | ((with_reducible show ite _ _ _); walk1; (try dsimp only))))
    refine ret _ _ n' ?_ ?_
    · have := (N3 (l, W.listOf (itemsOf (zs'.set (pos' : Int).toNat (zs.getD pos dZ))) n') (by simp)).1
      rw [show (pos' : Int).toNat = pos' by (first | lia | omega), hr] at this
      exact this
    · intro b o hb e
      exact F3.keep b o ((hg b o).mpr ⟨by simpa using hb, e⟩)
end Mine

namespace Mine
open PySem PySem.W PyProof.Rows PySem.Calls
set_option maxRecDepth 100000
set_option linter.unusedVariables false

noncomputable def suGo (pos : Nat) (zs : List Z) : Nat × List Z :=
  if h : 2 * pos + 1 < zs.length then
    if 2 * pos + 2 < zs.length ∧ zlt (zs.getD (2 * pos + 1) dZ) (zs.getD (2 * pos + 2) dZ) = false then suGo (2 * pos + 2) (zs.set pos (zs.getD (2 * pos + 2) dZ))
    else suGo (2 * pos + 1) (zs.set pos (zs.getD (2 * pos + 1) dZ))
  else (pos, zs)
termination_by zs.length - pos
decreasing_by all_goals (simp only [List.length_set]; omega)

noncomputable def suL (pos : Nat) (zs : List Z) : List Z := sdGo (zs.getD pos dZ) pos (suGo pos zs).1 ((suGo pos zs).2.set (suGo pos zs).1 (zs.getD pos dZ))

local macro_rules | `(tactic| walk_at "subscriptTail") => `(tactic| (k_here; (with_unfolding_all refine' my_item ?k1 ?k2 ?_ ?k4; (case k1 => exact News.get (by assumption) (by k_mem)); (case k4 => with_unfolding_all rfl); (case k2 => omega); k_whole)))
local macro_rules | `(tactic| walk_at "call builtin:len") => `(tactic| (k_here; (with_unfolding_all refine' my_len ?k1 ?k2 ?_; (case k1 => exact News.get (by assumption) (by k_mem)); (case k2 => omega); k_whole)))
def QSu (s : Shared) (g : Heap) (k : Bool) (L' : Addr) (l : Addr) (zs : List Z) (pos : Nat) (t1 : Tok) (f : Flow) (s' : Shared) : Prop := f = .next ∧ ∃ (h' : Heap) (tk : Nat) (zs' : List Z) (pos' n' : Nat) (m' : Str → Option Value), s' = { s with heap := h', toks := tk } ∧ pos' < zs.length ∧ zs'.length = zs.length ∧ (pos', zs') = suGo pos zs ∧ (∀ z ∈ zs', Itm g k z) ∧ Fr g L' h' m' ∧ (m' "heap" = some (.ref l) ∧ (∃ t', m' "pos" = some (.int (pos' : Nat) t')) ∧ m' "startpos" = some (.int pos t1) ∧ m' "newitem" = some (zs.getD pos dZ).1) ∧ News g L' h' [(l, W.listOf (itemsOf zs') n')]
def JSu (g : Heap) (k : Bool) (l : Addr) (zs : List Z) (pos : Nat) (t1 : Tok) (q : Nat) (m : Str → Option Value) (nx : List (Addr × Obj)) : Prop := ∃ (zs' : List Z) (n' j : Nat), q = zs.length - j ∧ j < zs.length ∧ zs'.length = zs.length ∧ (∀ z ∈ zs', Itm g k z) ∧ suGo j zs' = suGo pos zs ∧ (m "heap" = some (.ref l) ∧ (∃ t', m "endpos" = some (.int zs.length t')) ∧ (∃ t', m "pos" = some (.int (j : Nat) t')) ∧ m "startpos" = some (.int pos t1) ∧ m "newitem" = some (zs.getD pos dZ).1 ∧ (∃ t', m "childpos" = some (.int (2 * (j : Nat) + 1) t'))) ∧ nx = [(l, W.listOf (itemsOf zs') n')]
set_option maxHeartbeats 4000000 in
theorem siftup_spec {w : World} {A : Around} {s : Shared} {H : Heap} {Q : Value → Shared → Prop} (G : Gnd w H) (KH : Kp [] H s.heap) (hA : Arnd A 4)
    {k : Bool} {l : Addr} {zs : List Z} {n : Nat} (hl : s.heap.get? l = some (W.listOf (itemsOf zs) n)) (hz : ∀ z ∈ zs, Itm s.heap k z) (hH : H.get? l = none) {pos : Nat} {t1 : Tok}
    (h2 : pos < zs.length) (h3 : zs.length < 64)
    (ret : ∀ h' tk n', h'.get? l = some (W.listOf (itemsOf (suL pos zs)) n') → Kp [l] s.heap h' → Q .none { s with heap := h', toks := tk }) :
    wpAny (model PG w) A (call (.ref 104) [.ref l, .int pos t1]) Q (fun _ _ => False) s := by
  obtain ⟨p, loose, mean, mg, mb, T0⟩ := G.T
  have X0 := G.X
  have hd0 : PySem.Challenge.rw_in0189_01.foot = PySem.Challenge.rw_in0189_01.foot := rfl
  revert X0 hd0
  k_fill
  intro X0 _
  refine' enter (binds := [("heap", .ref l), ("pos", .int pos t1)]) [(l, W.listOf (itemsOf zs) n)] G.X KH T0.nolimit ?hN ?hroom ?ho ?hcd ?hbind ?hloc ?h ?hcell ?hco ?hgen ?hk
  case ho => k_is
  case hN => intro p hp; simp only [List.mem_singleton] at hp; subst hp; exact ⟨hl, hH⟩
  case hroom => have := hA.dep; omega
  case hcd => k_is
  case hbind => exact BindsTo.of_eq rfl
  case hloc => exact locs rfl
  case hcell => decide
  case hco => exact rfl
  case hgen => exact rfl
  case hk => exact rfl
  intro g L' h₁ hg Kg F N hlt
  have X := X0.keeps fun b o e => Kg b o (by simp) e
  have T := T0.keeps fun b o e => Kg b o (by simp) e
  clear X0 T0
  try k_fold
  (repeat' (first | (k_unfold; (try dsimp only)) | ((with_reducible show wpAny _ _ _ _ _ _); (fail_if_success (with_reducible show wpAny _ _ (exec (Stmt.While _ _ _ _) _) _ _ _)); (fail_if_success (with_reducible show wpAny _ _ (exec (Stmt.For _ _ _ _ _) _) _ _ _)); (first | walk1 | (dsimp only; walk1)); (try dsimp only)) | ((with_reducible show (Frag.In _ _ ∧ _)); walk1; (try dsimp only)) | ((with_reducible show ite _ _ _); walk1; (try dsimp only))))
  rename News _ _ _ _ => N1
  rename Fr _ _ _ _ => F1
  have hgl : g.get? l = none := by
    cases e : g.get? l with
    | none => rfl
    | some o => exact absurd ((hg l o).mp e).1 (by simp)
  have hlL : l ≠ L' := (N1 _ (.head _)).2.1
  have hzg : ∀ z ∈ zs, Itm g k z := fun z hm => (hz z hm).hide hl fun b o hb e => (hg b o).mpr ⟨by simpa using hb, e⟩
  refine cut (Q' := QSu s g k L' l zs pos t1) ?_ ?_
  · refine While_inv2 (JSu g k l zs pos t1) (n₀ := zs.length - pos) F1 N1 ⟨zs, n, pos, rfl, h2, rfl, hzg, rfl, ⟨rfl, ⟨_, rfl⟩, ⟨_, rfl⟩, rfl, rfl, ⟨_, rfl⟩⟩, rfl⟩ ?_ PassesOwn.never
    rintro q m₁ nx h₂ tk₂ F2 N2 ⟨zs', n', j, rfl, hj, hlen, hit, hgo, ⟨a1, ⟨t2, a2⟩, ⟨t3, a3⟩, a4, a5, ⟨t6, a6⟩⟩, rfl⟩
    have F3 := known6 F2 a1 a2 a3 a4 a5 a6
    clear F2 F1 N1 a1 a2 a3 a4 a5 a6
    rw [suGo] at hgo
    (repeat' (first | (k_unfold; (try dsimp only)) | ((with_reducible show wpAny _ _ _ _ _ _); (fail_if_success (with_reducible show wpAny _ _ (exec (Stmt.While _ _ _ _) _) _ _ _)); (fail_if_success (with_reducible show wpAny _ _ (exec (Stmt.For _ _ _ _ _) _) _ _ _)); (first | walk1 | (dsimp only; walk1)); (try dsimp only)) | ((with_reducible show (Frag.In _ _ ∧ _)); walk1; (try dsimp only)) | ((with_reducible show ite _ _ _); walk1; (try dsimp only))))
    · rename Fr _ _ _ _ => F4
      rename News _ _ _ _ => N4
      have e1 : (2 * (j : Int) + 1).toNat = 2 * j + 1 := by omega
      have e2 : (2 * (j : Int) + 1 + 1).toNat = 2 * j + 2 := by omega
      rw [e1, e2]
      rw [dif_pos (by omega)] at hgo
      refine lt_itm (k := k) ((hit _ (getD_mem (by omega))).mono F4.keep) ((hit _ (getD_mem (by omega))).mono F4.keep) (by have := hA.uni; simp only [units_deeper]; omega) fun tk => ?_
      dsimp only
      cases hc : zlt (zs'.getD (2 * j + 1) dZ) (zs'.getD (2 * j + 2) dZ)
      · rw [if_pos ⟨by omega, hc⟩] at hgo
        (repeat' (first | (k_unfold; (try dsimp only)) | ((with_reducible show wpAny _ _ _ _ _ _); (fail_if_success (with_reducible show wpAny _ _ (exec (Stmt.While _ _ _ _) _) _ _ _)); (fail_if_success (with_reducible show wpAny _ _ (exec (Stmt.For _ _ _ _ _) _) _ _ _)); (first | walk1 | (dsimp only; walk1)); (try dsimp only)) | ((with_reducible show (Frag.In _ _ ∧ _)); walk1; (try dsimp only)) | ((with_reducible show ite _ _ _); walk1; (try dsimp only))))
        rename Fr _ _ _ _ => F5
        rename News _ _ _ _ => N5
        rw [e2]
        refine my_set (zs'.getD (2 * j + 2) dZ) F5 N5 (.head (by simp)) (by omega) rfl fun h3 F3 N3 => ?_
        (repeat' (first | (k_unfold; (try dsimp only)) | ((with_reducible show wpAny _ _ _ _ _ _); (fail_if_success (with_reducible show wpAny _ _ (exec (Stmt.While _ _ _ _) _) _ _ _)); (fail_if_success (with_reducible show wpAny _ _ (exec (Stmt.For _ _ _ _ _) _) _ _ _)); (first | walk1 | (dsimp only; walk1)); (try dsimp only)) | ((with_reducible show (Frag.In _ _ ∧ _)); walk1; (try dsimp only)) | ((with_reducible show ite _ _ _); walk1; (try dsimp only))))
        rename Fr _ _ _ _ => F6
        rename News _ _ _ _ => N6
        exact ⟨_, _, _, _, zs.length - (2 * j + 2), rfl, F6, N6, by omega, zs'.set j (zs'.getD (2 * j + 2) dZ), n', 2 * j + 2, rfl, by omega, by simpa using hlen, set_mem hit (hit _ (getD_mem (by omega))), hgo,
          ⟨rfl, ⟨_, rfl⟩, ⟨_, intv (by omega)⟩, rfl, rfl, ⟨_, intv (by omega)⟩⟩, rfl⟩
      · rw [if_neg (by rintro ⟨_, q⟩; rw [hc] at q; cases q)] at hgo
        (repeat' (first | (k_unfold; (try dsimp only)) | ((with_reducible show wpAny _ _ _ _ _ _); (fail_if_success (with_reducible show wpAny _ _ (exec (Stmt.While _ _ _ _) _) _ _ _)); (fail_if_success (with_reducible show wpAny _ _ (exec (Stmt.For _ _ _ _ _) _) _ _ _)); (first | walk1 | (dsimp only; walk1)); (try dsimp only)) | ((with_reducible show (Frag.In _ _ ∧ _)); walk1; (try dsimp only)) | ((with_reducible show ite _ _ _); walk1; (try dsimp only))))
        rename Fr _ _ _ _ => F5
        rename News _ _ _ _ => N5
        rw [e1]
        refine my_set (zs'.getD (2 * j + 1) dZ) F5 N5 (.head (by simp)) (by omega) rfl fun h3 F3 N3 => ?_
        (repeat' (first | (k_unfold; (try dsimp only)) | ((with_reducible show wpAny _ _ _ _ _ _); (fail_if_success (with_reducible show wpAny _ _ (exec (Stmt.While _ _ _ _) _) _ _ _)); (fail_if_success (with_reducible show wpAny _ _ (exec (Stmt.For _ _ _ _ _) _) _ _ _)); (first | walk1 | (dsimp only; walk1)); (try dsimp only)) | ((with_reducible show (Frag.In _ _ ∧ _)); walk1; (try dsimp only)) | ((with_reducible show ite _ _ _); walk1; (try dsimp only))))
        rename Fr _ _ _ _ => F6
        rename News _ _ _ _ => N6
        exact ⟨_, _, _, _, zs.length - (2 * j + 1), rfl, F6, N6, by omega, zs'.set j (zs'.getD (2 * j + 1) dZ), n', 2 * j + 1, rfl, by omega, by simpa using hlen, set_mem hit (hit _ (getD_mem (by omega))), hgo,
          ⟨rfl, ⟨_, rfl⟩, ⟨_, intv (by omega)⟩, rfl, rfl, ⟨_, intv (by omega)⟩⟩, rfl⟩
    · rename Fr _ _ _ _ => F4
      rename News _ _ _ _ => N4
      have e1 : (2 * (j : Int) + 1).toNat = 2 * j + 1 := by omega
      rw [e1]
      rw [dif_pos (by omega), if_neg (by omega)] at hgo
      refine my_set (zs'.getD (2 * j + 1) dZ) F4 N4 (.head (by simp)) (by omega) rfl fun h3 F3 N3 => ?_
      (repeat' (first | (k_unfold; (try dsimp only)) | ((with_reducible show wpAny _ _ _ _ _ _); (fail_if_success (with_reducible show wpAny _ _ (exec (Stmt.While _ _ _ _) _) _ _ _)); (fail_if_success (with_reducible show wpAny _ _ (exec (Stmt.For _ _ _ _ _) _) _ _ _)); (first | walk1 | (dsimp only; walk1)); (try dsimp only)) | ((with_reducible show (Frag.In _ _ ∧ _)); walk1; (try dsimp only)) | ((with_reducible show ite _ _ _); walk1; (try dsimp only))))
      rename Fr _ _ _ _ => F6
      rename News _ _ _ _ => N6
      exact ⟨_, _, _, _, zs.length - (2 * j + 1), rfl, F6, N6, by omega, zs'.set j (zs'.getD (2 * j + 1) dZ), n', 2 * j + 1, rfl, by omega, by simpa using hlen, set_mem hit (hit _ (getD_mem (by omega))), hgo,
        ⟨rfl, ⟨_, rfl⟩, ⟨_, intv (by omega)⟩, rfl, rfl, ⟨_, intv (by omega)⟩⟩, rfl⟩
    · rw [dif_neg (by omega)] at hgo
      exact ⟨rfl, _, _, zs', j, n', _, rfl, hj, hlen, hgo, hit, F3, ⟨rfl, ⟨_, rfl⟩, rfl, rfl⟩, N2⟩
  · rintro f s' ⟨rfl, h', tk, zs', pos', n', m', rfl, hp, hz', hr, hit, F', ⟨a1, ⟨t', a2⟩, a3, a4⟩, N'⟩
    have F3 := known4 F' a1 a2 a3 a4
    clear F' F1 N1
    (repeat' (first | (k_unfold; (try dsimp only)) | ((with_reducible show wpAny _ _ _ _ _ _); (fail_if_success (with_reducible show wpAny _ _ (exec (Stmt.While _ _ _ _) _) _ _ _)); (fail_if_success (with_reducible show wpAny _ _ (exec (Stmt.For _ _ _ _ _) _) _ _ _)); (first | walk1 | (dsimp only; walk1)); (try dsimp only)) | ((with_reducible show (Frag.In _ _ ∧ _)); walk1; (try dsimp only)) | ((with_reducible show ite _ _ _); walk1; (try dsimp only))))
    refine my_set (zs.getD pos dZ) F3 N' (.head (by simp)) (by omega) rfl fun h3 F3 N3 => ?_
    have hx0 : Itm g k (zs.getD pos dZ) := hzg _ (getD_mem h2)
    (repeat' (first | (k_unfold; (try dsimp only)) | ((with_reducible show wpAny _ _ _ _ _ _); (fail_if_success (with_reducible show wpAny _ _ (exec (Stmt.While _ _ _ _) _) _ _ _)); (fail_if_success (with_reducible show wpAny _ _ (exec (Stmt.For _ _ _ _ _) _) _ _ _)); (first | walk1 | (dsimp only; walk1)); (try dsimp only)) | ((with_reducible show (Frag.In _ _ ∧ _)); walk1; (try dsimp only)) | ((with_reducible show ite _ _ _); walk1; (try dsimp only))))
    have ep : (pos' : Int).toNat = pos' := by omega
    rw [ep] at N3
    refine siftdown_spec (s := { s with heap := h3, toks := _ }) G (fun b o hb e => F3.keep b o (Kg b o hb e)) hA.deeper (k := k) (N3 _ (.head _)).1
      (fun z hm => (set_mem hit hx0 z hm).mono F3.keep) hH (by simp; omega) (by simp; omega) fun h4 tk4 n4 e4 k4 => ?_
    (repeat' (first | (k_unfold; (try dsimp only)) | ((with_reducible show wpAny _ _ _ _ _ _); (fail_if_success (with_reducible show wpAny _ _ (exec (Stmt.While _ _ _ _) _) _ _ _)); (fail_if_success (with_reducible show wpAny _ _ (exec (Stmt.For _ _ _ _ _) _) _ _ _)); (first | walk1 | (dsimp only; walk1)); (try dsimp only)) | ((with_reducible show (Frag.In _ _ ∧ _)); walk1; (try dsimp only)) | ((with_reducible show ite _ _ _); walk1; (try dsimp only))))
    refine ret _ _ n4 ?_ ?_
    · rw [e4]
      have e5 : suGo pos zs = (pos', zs') := hr.symm
      unfold suL
      rw [e5]
      have e6 : (zs'.set pos' (zs.getD pos dZ)).getD pos' dZ = zs.getD pos dZ := by
        have : pos' < zs'.length := by omega
        simp [this]
      rw [e6]
    · intro b o hb e
      refine k4 b o hb (F3.keep b o ((hg b o).mpr ⟨by simpa using hb, e⟩))
end Mine

namespace Mine
open PySem PySem.W PyProof.Rows PySem.Calls
set_option linter.unusedVariables false

def zle (a b : Z) : Prop := zlt b a = false
theorem zle_iff {a b : Z} : zle a b ↔ (a.2.1 < b.2.1 ∨ (a.2.1 = b.2.1 ∧ a.2.2 ≤ b.2.2)) := by
  unfold zle zlt klt
  simp only [Bool.or_eq_false_iff, Bool.and_eq_false_iff, decide_eq_false_iff_not]
  (first | lia | omega)
theorem zlt_iff {a b : Z} : zlt a b = true ↔ (a.2.1 < b.2.1 ∨ (a.2.1 = b.2.1 ∧ a.2.2 < b.2.2)) := by
  unfold zlt klt
  simp only [Bool.or_eq_true, Bool.and_eq_true, decide_eq_true_eq]
theorem zle_refl (a : Z) : zle a a := zle_iff.mpr (by (first | lia | omega))
theorem zle_trans {a b c : Z} (h : zle a b) (k : zle b c) : zle a c := by
  rw [zle_iff] at *; (first | lia | omega)
theorem zlt_le {a b : Z} (h : zlt a b = true) : zle a b := by
  rw [zle_iff]; rw [zlt_iff] at h; (first | lia | omega)

abbrev at_ (zs : List Z) (i : Nat) : Z := zs.getD i dZ
theorem at_set_self {zs : List Z} {i : Nat} {x : Z} (h : i < zs.length) : at_ (zs.set i x) i = x := by
  simp [at_, h]
theorem at_set_ne {zs : List Z} {i j : Nat} {x : Z} (h : i ≠ j) : at_ (zs.set i x) j = at_ zs j := by
  simp [at_, h]

inductive Desc (sp : Nat) : Nat → Prop
  | refl : Desc sp sp
  | left {p} : Desc sp p → Desc sp (2 * p + 1)
  | right {p} : Desc sp p → Desc sp (2 * p + 2)
theorem Desc.ge {sp p : Nat} (h : Desc sp p) : sp ≤ p := by
  induction h with
  | refl => exact Nat.le_refl _
  | left _ ih => (first | lia | omega)
  | right _ ih => (first | lia | omega)
theorem Desc.up {sp p : Nat} (h : Desc sp p) (hp : sp < p) : Desc sp ((p - 1) / 2) := by
  cases h with
  | refl => (first | lia | omega)
  | @left q h => rw [show (2 * q + 1 - 1) / 2 = q by (first | lia | omega)]; exact h
  | @right q h => rw [show (2 * q + 2 - 1) / 2 = q by (first | lia | omega)]; exact h
theorem Desc.zero : ∀ p, Desc 0 p := by
  intro p
  induction p using Nat.strongRecOn with
  | ind p ih =>
    rcases Nat.eq_zero_or_pos p with rfl | hp
    · exact .refl
    · have := ih ((p - 1) / 2) (by (first | lia | omega))
      rcases (show p = 2 * ((p - 1) / 2) + 1 ∨ p = 2 * ((p - 1) / 2) + 2 by (first | lia | omega)) with e | e
      · rw [e]; exact .left this
      · rw [e]; exact .right this

def HeapFrom (lo : Nat) (zs : List Z) : Prop := ∀ i, 0 < i → i < zs.length → lo ≤ (i - 1) / 2 → zle (at_ zs ((i - 1) / 2)) (at_ zs i)

theorem sdGo_length (x : Z) (sp : Nat) : ∀ (pos : Nat) (zs : List Z), (sdGo x sp pos zs).length = zs.length := by
  intro pos
  induction pos using Nat.strongRecOn with
  | ind pos ih =>
    intro zs
    rw [sdGo]
    split
    · split
      · rw [ih _ (by (first | lia | omega))]; simp
      · simp
    · simp

theorem swap_perm {zs : List Z} {i j : Nat} {x : Z} (hi : i < zs.length) (hj : j < zs.length) (hij : i ≠ j) :
    ((zs.set i (at_ zs j)).set j x).Perm (zs.set i x) := by
  have h1 : i < (zs.set i x).length := by simpa using hi
  have h2 : j < (zs.set i x).length := by simpa using hj
  have := List.set_set_perm h1 h2
  have e1 : (zs.set i x)[j] = at_ zs j := by
    rw [List.getElem_set_ne hij]
    simp [at_, hj]
  have e2 : (zs.set i x)[i] = x := by simp
  rw [e1, e2, List.set_set] at this
  exact this

theorem sdGo_perm (x : Z) (sp : Nat) : ∀ (pos : Nat) (zs : List Z), pos < zs.length → (sdGo x sp pos zs).Perm (zs.set pos x) := by
  intro pos
  induction pos using Nat.strongRecOn with
  | ind pos ih =>
    intro zs hp
    rw [sdGo]
    split
    · split
      · exact (ih _ (by (first | lia | omega)) _ (by simp; (first | lia | omega))).trans (swap_perm hp (by (first | lia | omega)) (by (first | lia | omega)))
      · exact List.Perm.refl _
    · exact List.Perm.refl _

theorem suGo_facts : ∀ (n pos : Nat) (zs : List Z), n = zs.length - pos → pos < zs.length →
    (suGo pos zs).1 < zs.length ∧ (suGo pos zs).2.length = zs.length ∧ ∀ x, ((suGo pos zs).2.set (suGo pos zs).1 x).Perm (zs.set pos x) := by
  intro n
  induction n using Nat.strongRecOn with
  | ind n ih =>
    intro pos zs hn hp
    rw [suGo]
    split
    · split
      · rename_i h1 h2
        have := ih (zs.length - (2 * pos + 2)) (by (first | lia | omega)) (2 * pos + 2) (zs.set pos (at_ zs (2 * pos + 2))) (by simp) (by simp; (first | lia | omega))
        simp only [List.length_set] at this
        exact ⟨this.1, this.2.1, fun x => (this.2.2 x).trans (swap_perm hp h2.1 (by (first | lia | omega)))⟩
      · rename_i h1 h2
        have := ih (zs.length - (2 * pos + 1)) (by (first | lia | omega)) (2 * pos + 1) (zs.set pos (at_ zs (2 * pos + 1))) (by simp) (by simp; (first | lia | omega))
        simp only [List.length_set] at this
        exact ⟨this.1, this.2.1, fun x => (this.2.2 x).trans (swap_perm hp h1 (by (first | lia | omega)))⟩
    · exact ⟨hp, rfl, fun x => List.Perm.refl _⟩

theorem suL_perm {pos : Nat} {zs : List Z} (h : pos < zs.length) : (suL pos zs).Perm zs := by
  obtain ⟨h1, h2, h3⟩ := suGo_facts _ pos zs rfl h
  unfold suL
  refine (sdGo_perm _ _ _ _ (by simp; (first | lia | omega))).trans ?_
  rw [List.set_set]
  refine (h3 _).trans ?_
  have e : zs.set pos (zs.getD pos dZ) = zs := by
    have : zs.getD pos dZ = zs[pos] := by simp [h]
    rw [this, List.set_getElem_self]
  rw [e]
theorem suL_length {pos : Nat} {zs : List Z} (h : pos < zs.length) : (suL pos zs).length = zs.length := (suL_perm h).length_eq

theorem sdGo_heap (x : Z) (sp : Nat) : ∀ (pos : Nat) (zs : List Z), pos < zs.length → Desc sp pos →
    (∀ i, 0 < i → i < zs.length → sp ≤ (i - 1) / 2 → i ≠ pos → (i - 1) / 2 ≠ pos → zle (at_ zs ((i - 1) / 2)) (at_ zs i)) →
    (∀ i, 0 < i → i < zs.length → (i - 1) / 2 = pos → zle x (at_ zs i)) →
    (∀ i, 0 < i → i < zs.length → (i - 1) / 2 = pos → pos ≠ sp → zle (at_ zs ((pos - 1) / 2)) (at_ zs i)) →
    HeapFrom sp (sdGo x sp pos zs) := by
  intro pos
  induction pos using Nat.strongRecOn with
  | ind pos ih =>
    intro zs hp hd ha hb hc
    have stop : (pos = sp ∨ zle (at_ zs ((pos - 1) / 2)) x) → HeapFrom sp (zs.set pos x) := by
      intro hs i hi hl hlo
      simp only [List.length_set] at hl
      by_cases e : i = pos
      · subst e
        rw [at_set_self hl, at_set_ne (by (first | lia | omega))]
        rcases hs with rfl | hs
        · (first | lia | omega)
        · exact hs
      · by_cases e2 : (i - 1) / 2 = pos
        · rw [e2, at_set_self hp, at_set_ne (Ne.symm e)]
          exact hb i hi hl e2
        · rw [at_set_ne (Ne.symm e2), at_set_ne (Ne.symm e)]
          exact ha i hi hl hlo e e2
    rw [sdGo]
    split
    · rename_i hlt
      split
      · rename_i hz
        have hq : sp ≤ (pos - 1) / 2 := (hd.up hlt).ge
        refine ih ((pos - 1) / 2) (by (first | lia | omega)) _ (by simp; (first | lia | omega)) (hd.up hlt) ?_ ?_ ?_
        · intro i hi hl hlo e e2
          simp only [List.length_set] at hl
          have ep : i ≠ pos := fun q => e2 (by rw [q])
          rw [at_set_ne (Ne.symm ep)]
          by_cases e3 : (i - 1) / 2 = pos
          · rw [e3, at_set_self hp]
            exact hc i hi hl e3 (by (first | lia | omega))
          · rw [at_set_ne (Ne.symm e3)]
            exact ha i hi hl hlo ep e3
        · intro i hi hl e
          simp only [List.length_set] at hl
          by_cases ep : i = pos
          · subst ep
            rw [at_set_self hl]
            exact zlt_le hz
          · rw [at_set_ne (Ne.symm ep)]
            have := ha i hi hl (by (first | lia | omega)) ep (by (first | lia | omega))
            rw [e] at this
            exact zle_trans (zlt_le hz) this
        · intro i hi hl e e2
          simp only [List.length_set] at hl
          have hp0 : sp < (pos - 1) / 2 := by (first | lia | omega)
          have hpp : sp ≤ ((pos - 1) / 2 - 1) / 2 := ((hd.up hlt).up hp0).ge
          have h1 := ha ((pos - 1) / 2) (by (first | lia | omega)) (by (first | lia | omega)) hpp (by (first | lia | omega)) (by (first | lia | omega))
          rw [at_set_ne (by (first | lia | omega))]
          by_cases ep : i = pos
          · subst ep
            rw [at_set_self hl]
            exact h1
          · rw [at_set_ne (Ne.symm ep)]
            have := ha i hi hl (by (first | lia | omega)) ep (by (first | lia | omega))
            rw [e] at this
            exact zle_trans h1 this
      · rename_i hz
        exact stop (.inr (by simpa [zle] using hz))
    · exact stop (.inl (by have := hd.ge; (first | lia | omega)))

theorem suGo_heap (sp : Nat) : ∀ (n pos : Nat) (zs : List Z), n = zs.length - pos → pos < zs.length → Desc sp pos →
    (∀ i, 0 < i → i < zs.length → sp ≤ (i - 1) / 2 → i ≠ pos → (i - 1) / 2 ≠ pos → zle (at_ zs ((i - 1) / 2)) (at_ zs i)) →
    (∀ i, 0 < i → i < zs.length → (i - 1) / 2 = pos → pos ≠ sp → zle (at_ zs ((pos - 1) / 2)) (at_ zs i)) →
    Desc sp (suGo pos zs).1 ∧ zs.length ≤ 2 * (suGo pos zs).1 + 1 ∧
    (∀ i, 0 < i → i < zs.length → sp ≤ (i - 1) / 2 → i ≠ (suGo pos zs).1 → (i - 1) / 2 ≠ (suGo pos zs).1 → zle (at_ (suGo pos zs).2 ((i - 1) / 2)) (at_ (suGo pos zs).2 i)) := by
  intro n
  induction n using Nat.strongRecOn with
  | ind n ih =>
    intro pos zs hn hp hd ha hc
    have step : ∀ c, c < zs.length → (c - 1) / 2 = pos → 0 < c → Desc sp c → (∀ i, 0 < i → i < zs.length → (i - 1) / 2 = pos → i ≠ c → zle (at_ zs c) (at_ zs i)) →
        Desc sp (suGo c (zs.set pos (at_ zs c))).1 ∧ zs.length ≤ 2 * (suGo c (zs.set pos (at_ zs c))).1 + 1 ∧
        (∀ i, 0 < i → i < zs.length → sp ≤ (i - 1) / 2 → i ≠ (suGo c (zs.set pos (at_ zs c))).1 → (i - 1) / 2 ≠ (suGo c (zs.set pos (at_ zs c))).1 → zle (at_ (suGo c (zs.set pos (at_ zs c))).2 ((i - 1) / 2)) (at_ (suGo c (zs.set pos (at_ zs c))).2 i)) := by
      intro c hcl hcp hc0 hdc hsib
      have hsp := hd.ge
      have := ih (zs.length - c) (by (first | lia | omega)) c (zs.set pos (at_ zs c)) (by simp) (by simpa using hcl) hdc ?_ ?_
      · simpa only [List.length_set] using this
      · intro i hi hl hlo e e2
        simp only [List.length_set] at hl
        by_cases ep : i = pos
        · subst ep
          rw [at_set_self hl, at_set_ne (by (first | lia | omega))]
          exact hc c hc0 hcl hcp (by (first | lia | omega))
        · rw [at_set_ne (Ne.symm ep)]
          by_cases e3 : (i - 1) / 2 = pos
          · rw [e3, at_set_self hp]
            exact hsib i hi hl e3 e
          · rw [at_set_ne (Ne.symm e3)]
            exact ha i hi hl hlo ep e3
      · intro i hi hl e e2
        simp only [List.length_set] at hl
        rw [hcp, at_set_self hp, at_set_ne (by (first | lia | omega))]
        have := ha i hi hl (by (first | lia | omega)) (by (first | lia | omega)) (by (first | lia | omega))
        rw [e] at this
        exact this
    rw [suGo]
    split
    · rename_i h1
      split
      · rename_i h2
        refine step (2 * pos + 2) h2.1 (by (first | lia | omega)) (by (first | lia | omega)) (.right hd) fun i hi hl e e2 => ?_
        rw [show i = 2 * pos + 1 by (first | lia | omega)]
        exact h2.2
      · rename_i h2
        refine step (2 * pos + 1) h1 (by (first | lia | omega)) (by (first | lia | omega)) (.left hd) fun i hi hl e e2 => ?_
        have ei : i = 2 * pos + 2 := by (first | lia | omega)
        subst ei
        refine zlt_le ?_
        cases q : zlt (at_ zs (2 * pos + 1)) (at_ zs (2 * pos + 2)) with
        | true => rfl
        | false => exact absurd ⟨hl, q⟩ h2
    · rename_i h1
      exact ⟨hd, by simpa using h1, ha⟩

theorem suL_heap {pos : Nat} {zs : List Z} (h : pos < zs.length) (hh : HeapFrom (pos + 1) zs) : HeapFrom pos (suL pos zs) := by
  obtain ⟨h1, h2, h3⟩ := suGo_facts _ pos zs rfl h
  obtain ⟨d1, d2, d3⟩ := suGo_heap pos _ pos zs rfl h .refl (fun i hi hl hlo e e2 => hh i hi hl (by (first | lia | omega))) (fun i hi hl e e2 => absurd rfl e2)
  unfold suL
  refine sdGo_heap _ _ _ _ (by simpa using (by (first | lia | omega))) d1 ?_ ?_ ?_
  · intro i hi hl hlo e e2
    simp only [List.length_set] at hl
    rw [at_set_ne (Ne.symm e2), at_set_ne (Ne.symm e)]
    exact d3 i hi (by (first | lia | omega)) hlo e e2
  · intro i hi hl e
    simp only [List.length_set] at hl
    (first | lia | omega)
  · intro i hi hl e
    simp only [List.length_set] at hl
    (first | lia | omega)

theorem root_min {zs : List Z} (hh : HeapFrom 0 zs) : ∀ i, i < zs.length → zle (at_ zs 0) (at_ zs i) := by
  intro i
  induction i using Nat.strongRecOn with
  | ind i ih =>
    intro hi
    rcases Nat.eq_zero_or_pos i with rfl | h0
    · exact zle_refl _
    · exact zle_trans (ih ((i - 1) / 2) (by (first | lia | omega)) (by (first | lia | omega))) (hh i h0 hi (Nat.zero_le _))
theorem root_min_mem {zs : List Z} (hh : HeapFrom 0 zs) {z : Z} (hz : z ∈ zs) : zle (at_ zs 0) z := by
  obtain ⟨i, hi, rfl⟩ := List.mem_iff_getElem.mp hz
  have := root_min hh i hi
  rwa [show at_ zs i = zs[i] by simp [at_, hi]] at this
end Mine

namespace Mine
open PySem PySem.W PyProof.Rows PySem.Calls
set_option maxRecDepth 100000
set_option linter.unusedVariables false

noncomputable def pushL (zs : List Z) (z : Z) : List Z := sdGo z 0 zs.length (zs ++ [z])
noncomputable def popV (zs : List Z) (z : Z) : Z := match zs with | [] => z | y :: _ => y
noncomputable def popL (zs : List Z) (z : Z) : List Z := match zs with | [] => [] | _ :: r => suL 0 (z :: r)
local macro_rules | `(tactic| walk_at "subscriptTail") => `(tactic| (k_here; (with_unfolding_all refine' my_item ?k1 ?k2 ?_ ?k4; (case k1 => exact News.get (by assumption) (by k_mem)); (case k4 => with_unfolding_all rfl); (case k2 => omega); k_whole)))
local macro_rules | `(tactic| walk_at "call builtin:len") => `(tactic| (k_here; (with_unfolding_all refine' my_len ?k1 ?k2 ?_; (case k1 => exact News.get (by assumption) (by k_mem)); (case k2 => omega); k_whole)))
local macro_rules | `(tactic| walk_at "call builtin:list.append") => `(tactic| (k_here; (with_unfolding_all refine' my_append ?z ?k1 ?k2 (.head ?k3) ?k4 ?k5 ?_; (case k5 => exact rfl); (case k1 => k_asm); (case k2 => k_asm); (case k3 => (intro p hp; cases hp)); (case k4 => omega); k_whole); intro h' F' N'))
local macro_rules | `(tactic| walk_at "truthy ref") => `(tactic| (k_here; (with_unfolding_all refine' my_truthy ?k1 ?k2 ?_; (case k1 => exact News.get (by assumption) (by k_mem)); (case k2 => omega); k_whole)))
set_option maxHeartbeats 4000000 in
theorem heappush_spec {w : World} {A : Around} {s : Shared} {H : Heap} {Q : Value → Shared → Prop} (G : Gnd w H) (KH : Kp [] H s.heap) (hA : Arnd A 5)
    {k : Bool} {l : Addr} {zs : List Z} {z : Z} {n : Nat} {v : Value} (hv : v = z.1) (hl : s.heap.get? l = some (W.listOf (itemsOf zs) n)) (hz : ∀ z ∈ zs, Itm s.heap k z) (hz0 : Itm s.heap k z) (hH : H.get? l = none)
    (h3 : zs.length < 63)
    (ret : ∀ h' tk n', h'.get? l = some (W.listOf (itemsOf (pushL zs z)) n') → Kp [l] s.heap h' → Q .none { s with heap := h', toks := tk }) :
    wpAny (model PG w) A (call (.ref 69) [.ref l, v]) Q (fun _ _ => False) s := by
  subst hv
  obtain ⟨p, loose, mean, mg, mb, T0⟩ := G.T
  have X0 := G.X
  have hd0 : PySem.Challenge.rw_in0189_01.foot = PySem.Challenge.rw_in0189_01.foot := rfl
  revert X0 hd0
  k_fill
  intro X0 _
  refine' enter (binds := [("heap", .ref l), ("item", z.1)]) [(l, W.listOf (itemsOf zs) n)] G.X KH T0.nolimit ?hN ?hroom ?ho ?hcd ?hbind ?hloc ?h ?hcell ?hco ?hgen ?hk
  case ho => k_is
  case hN => intro p hp; simp only [List.mem_singleton] at hp; subst hp; exact ⟨hl, hH⟩
  case hroom => have := hA.dep; omega
  case hcd => k_is
  case hbind => exact BindsTo.of_eq rfl
  case hloc => exact locs rfl
  case hcell => decide
  case hco => exact rfl
  case hgen => exact rfl
  case hk => exact rfl
  intro g L' h₁ hg Kg F N hlt
  have X := X0.keeps fun b o e => Kg b o (by simp) e
  have T := T0.keeps fun b o e => Kg b o (by simp) e
  clear X0 T0
  try k_fold
  have hgl : g.get? l = none := by
    cases e : g.get? l with
    | none => rfl
    | some o => exact absurd ((hg l o).mp e).1 (by simp)
  have hzg : ∀ z ∈ zs, Itm g k z := fun z hm => (hz z hm).hide hl fun b o hb e => (hg b o).mpr ⟨by simpa using hb, e⟩
  have hz0g : Itm g k z := hz0.hide hl fun b o hb e => (hg b o).mpr ⟨by simpa using hb, e⟩
  have hlen : (zs ++ [z]).length = zs.length + 1 := by simp
  have back : ∀ {h : Heap}, (∀ b o, g.get? b = some o → h.get? b = some o) → Kp [l] s.heap h := fun hk b o hb e => hk b o ((hg b o).mpr ⟨by simpa using hb, e⟩)
  (repeat' (first | (k_unfold; (try dsimp only)) | ((with_reducible show wpAny _ _ _ _ _ _); (fail_if_success (with_reducible show wpAny _ _ (exec (Stmt.While _ _ _ _) _) _ _ _)); (fail_if_success (with_reducible show wpAny _ _ (exec (Stmt.For _ _ _ _ _) _) _ _ _)); (first | walk1 | (dsimp only; walk1)); (try dsimp only)) | ((with_reducible show (Frag.In _ _ ∧ _)); walk1; (try dsimp only)) | ((with_reducible show ite _ _ _); walk1; (try dsimp only))))
  rename Fr _ _ _ _ => F1
  rename News _ _ _ _ => N1
  have e0 : (((zs ++ [z]).length : Nat) : Int) - 1 = ((zs.length : Nat) : Int) := by omega
  rw [e0]
  refine siftdown_spec (sp := 0) (k := k) (zs := zs ++ [z]) (pos := zs.length) G (fun b o hb e => F1.keep b o (Kg b o hb e)) (hA.less (by omega)).deeper (N1 _ (.head _)).1
      (fun x hm => ?_) hH (by omega) (by omega) fun h4 tk4 n4 e4 k4 => ?_
  · rcases List.mem_append.mp hm with hm | hm
    · exact (hzg x hm).mono F1.keep
    · rw [List.mem_singleton.mp hm]; exact hz0g.mono F1.keep
  · (repeat' (first | (k_unfold; (try dsimp only)) | ((with_reducible show wpAny _ _ _ _ _ _); (fail_if_success (with_reducible show wpAny _ _ (exec (Stmt.While _ _ _ _) _) _ _ _)); (fail_if_success (with_reducible show wpAny _ _ (exec (Stmt.For _ _ _ _ _) _) _ _ _)); (first | walk1 | (dsimp only; walk1)); (try dsimp only)) | ((with_reducible show (Frag.In _ _ ∧ _)); walk1; (try dsimp only)) | ((with_reducible show ite _ _ _); walk1; (try dsimp only))))
    refine ret _ _ n4 ?_ ?_
    · rw [e4]
      unfold pushL
      have e6 : (zs ++ [z]).getD zs.length dZ = z := by simp
      rw [e6]
    · exact fun b o hb e => k4 b o hb (back F1.keep b o hb e)

set_option maxHeartbeats 4000000 in
theorem heappop_spec {w : World} {A : Around} {s : Shared} {H : Heap} {Q : Value → Shared → Prop} (G : Gnd w H) (KH : Kp [] H s.heap) (hA : Arnd A 5)
    {k : Bool} {l : Addr} {zs : List Z} {z : Z} {n : Nat} (hl : s.heap.get? l = some (W.listOf (itemsOf (zs ++ [z])) n)) (hz : ∀ z ∈ zs, Itm s.heap k z) (hz0 : Itm s.heap k z) (hH : H.get? l = none)
    (h3 : zs.length < 63)
    (ret : ∀ h' tk n', h'.get? l = some (W.listOf (itemsOf (popL zs z)) n') → Kp [l] s.heap h' → Q (popV zs z).1 { s with heap := h', toks := tk }) :
    wpAny (model PG w) A (call (.ref 76) [.ref l]) Q (fun _ _ => False) s := by
  obtain ⟨p, loose, mean, mg, mb, T0⟩ := G.T
  have X0 := G.X
  have hd0 : PySem.Challenge.rw_in0189_01.foot = PySem.Challenge.rw_in0189_01.foot := rfl
  revert X0 hd0
  k_fill
  intro X0 _
  refine' enter (binds := [("heap", .ref l)]) [(l, W.listOf (itemsOf (zs ++ [z])) n)] G.X KH T0.nolimit ?hN ?hroom ?ho ?hcd ?hbind ?hloc ?h ?hcell ?hco ?hgen ?hk
  case ho => k_is
  case hN => intro p hp; simp only [List.mem_singleton] at hp; subst hp; exact ⟨hl, hH⟩
  case hroom => have := hA.dep; omega
  case hcd => k_is
  case hbind => exact BindsTo.of_eq rfl
  case hloc => exact locs rfl
  case hcell => decide
  case hco => exact rfl
  case hgen => exact rfl
  case hk => exact rfl
  intro g L' h₁ hg Kg F N hlt
  have X := X0.keeps fun b o e => Kg b o (by simp) e
  have T := T0.keeps fun b o e => Kg b o (by simp) e
  clear X0 T0
  try k_fold
  have hgl : g.get? l = none := by
    cases e : g.get? l with
    | none => rfl
    | some o => exact absurd ((hg l o).mp e).1 (by simp)
  have hzg : ∀ z ∈ zs, Itm g k z := fun z hm => (hz z hm).hide hl fun b o hb e => (hg b o).mpr ⟨by simpa using hb, e⟩
  have hz0g : Itm g k z := hz0.hide hl fun b o hb e => (hg b o).mpr ⟨by simpa using hb, e⟩
  have hlen : (zs ++ [z]).length = zs.length + 1 := by simp
  have back : ∀ {h : Heap}, (∀ b o, g.get? b = some o → h.get? b = some o) → Kp [l] s.heap h := fun hk b o hb e => hk b o ((hg b o).mpr ⟨by simpa using hb, e⟩)
  (repeat' (first | (k_unfold; (try dsimp only)) | ((with_reducible show wpAny _ _ _ _ _ _); (fail_if_success (with_reducible show wpAny _ _ (exec (Stmt.While _ _ _ _) _) _ _ _)); (fail_if_success (with_reducible show wpAny _ _ (exec (Stmt.For _ _ _ _ _) _) _ _ _)); (first | walk1 | (dsimp only; walk1)); (try dsimp only)) | ((with_reducible show (Frag.In _ _ ∧ _)); walk1; (try dsimp only)) | ((with_reducible show ite _ _ _); walk1; (try dsimp only))))
  rename Fr _ _ _ _ => F1
  rename News _ _ _ _ => N1
  refine my_pop F1 N1 (.head (by intro p hp; cases hp)) (by omega) fun h2 F2 N2 => ?_
  clear F1 N1
  (repeat' (first | (k_unfold; (try dsimp only)) | ((with_reducible show wpAny _ _ _ _ _ _); (fail_if_success (with_reducible show wpAny _ _ (exec (Stmt.While _ _ _ _) _) _ _ _)); (fail_if_success (with_reducible show wpAny _ _ (exec (Stmt.For _ _ _ _ _) _) _ _ _)); (first | walk1 | (dsimp only; walk1)); (try dsimp only)) | ((with_reducible show (Frag.In _ _ ∧ _)); walk1; (try dsimp only)) | ((with_reducible show ite _ _ _); walk1; (try dsimp only))))
  all_goals rename Fr _ _ _ _ => F1
  all_goals rename News _ _ _ _ => N1
  · rename 0 < _ => hpos
    obtain ⟨y, r, rfl⟩ : ∃ y r, zs = y :: r := by
      cases zs with
      | nil => exact absurd hpos (by simp)
      | cons y r => exact ⟨y, r, rfl⟩
    refine my_set z F1 N1 (.head (by intro p hp; cases hp)) (by simp only [List.length_cons] at h3 ⊢; omega) rfl fun h3 F3 N3 => ?_
    (repeat' (first | (k_unfold; (try dsimp only)) | ((with_reducible show wpAny _ _ _ _ _ _); (fail_if_success (with_reducible show wpAny _ _ (exec (Stmt.While _ _ _ _) _) _ _ _)); (fail_if_success (with_reducible show wpAny _ _ (exec (Stmt.For _ _ _ _ _) _) _ _ _)); (first | walk1 | (dsimp only; walk1)); (try dsimp only)) | ((with_reducible show (Frag.In _ _ ∧ _)); walk1; (try dsimp only)) | ((with_reducible show ite _ _ _); walk1; (try dsimp only))))
    refine siftup_spec (k := k) (zs := z :: r) (pos := 0) G (fun b o hb e => F3.keep b o (Kg b o hb e)) (hA.less (by omega)).deeper (N3 _ (.head _)).1
      (fun x hm => ?_) hH (by simp) (by simp only [List.length_cons] at *; omega) fun h4 tk4 n4 e4 k4 => ?_
    · rcases List.mem_cons.mp hm with rfl | hm
      · exact hz0g.mono F3.keep
      · exact (hzg x (.tail _ hm)).mono F3.keep
    · have F4 := after1 F3 k4 hgl (N3 _ (.head _)).2.1
      have N4 := after1N (rest := []) N3 k4 e4 (by intro p hp; cases hp)
      clear F3 N3 F1 N1
      (repeat' (first | (k_unfold; (try dsimp only)) | ((with_reducible show wpAny _ _ _ _ _ _); (fail_if_success (with_reducible show wpAny _ _ (exec (Stmt.While _ _ _ _) _) _ _ _)); (fail_if_success (with_reducible show wpAny _ _ (exec (Stmt.For _ _ _ _ _) _) _ _ _)); (first | walk1 | (dsimp only; walk1)); (try dsimp only)) | ((with_reducible show (Frag.In _ _ ∧ _)); walk1; (try dsimp only)) | ((with_reducible show ite _ _ _); walk1; (try dsimp only))))
      exact ret _ _ n4 e4 (fun b o hb e => back F4.keep b o hb e)
  · rename ¬ 0 < _ => hpos
    obtain rfl : zs = [] := by
      cases zs with
      | nil => rfl
      | cons y r => exact absurd (by simp) hpos
    exact ret _ _ _ (N1 _ (.head _)).1 (fun b o hb e => back F1.keep b o hb e)

set_option maxHeartbeats 4000000 in
theorem heapreplace_spec {w : World} {A : Around} {s : Shared} {H : Heap} {Q : Value → Shared → Prop} (G : Gnd w H) (KH : Kp [] H s.heap) (hA : Arnd A 5)
    {k : Bool} {l : Addr} {zs : List Z} {z : Z} {n : Nat} {v : Value} (hv : v = z.1) (hl : s.heap.get? l = some (W.listOf (itemsOf zs) n)) (hz : ∀ z ∈ zs, Itm s.heap k z) (hz0 : Itm s.heap k z) (hH : H.get? l = none)
    (h3 : zs.length < 63) (h4 : 0 < zs.length)
    (ret : ∀ h' tk n', h'.get? l = some (W.listOf (itemsOf (suL 0 (zs.set 0 z))) n') → Kp [l] s.heap h' → Q (zs.getD 0 dZ).1 { s with heap := h', toks := tk }) :
    wpAny (model PG w) A (call (.ref 83) [.ref l, v]) Q (fun _ _ => False) s := by
  subst hv
  obtain ⟨p, loose, mean, mg, mb, T0⟩ := G.T
  have X0 := G.X
  have hd0 : PySem.Challenge.rw_in0189_01.foot = PySem.Challenge.rw_in0189_01.foot := rfl
  revert X0 hd0
  k_fill
  intro X0 _
  refine' enter (binds := [("heap", .ref l), ("item", z.1)]) [(l, W.listOf (itemsOf zs) n)] G.X KH T0.nolimit ?hN ?hroom ?ho ?hcd ?hbind ?hloc ?h ?hcell ?hco ?hgen ?hk
  case ho => k_is
  case hN => intro p hp; simp only [List.mem_singleton] at hp; subst hp; exact ⟨hl, hH⟩
  case hroom => have := hA.dep; omega
  case hcd => k_is
  case hbind => exact BindsTo.of_eq rfl
  case hloc => exact locs rfl
  case hcell => decide
  case hco => exact rfl
  case hgen => exact rfl
  case hk => exact rfl
  intro g L' h₁ hg Kg F N hlt
  have X := X0.keeps fun b o e => Kg b o (by simp) e
  have T := T0.keeps fun b o e => Kg b o (by simp) e
  clear X0 T0
  try k_fold
  have hgl : g.get? l = none := by
    cases e : g.get? l with
    | none => rfl
    | some o => exact absurd ((hg l o).mp e).1 (by simp)
  have hzg : ∀ z ∈ zs, Itm g k z := fun z hm => (hz z hm).hide hl fun b o hb e => (hg b o).mpr ⟨by simpa using hb, e⟩
  have hz0g : Itm g k z := hz0.hide hl fun b o hb e => (hg b o).mpr ⟨by simpa using hb, e⟩
  have back : ∀ {h : Heap}, (∀ b o, g.get? b = some o → h.get? b = some o) → Kp [l] s.heap h := fun hk b o hb e => hk b o ((hg b o).mpr ⟨by simpa using hb, e⟩)
  (repeat' (first | (k_unfold; (try dsimp only)) | ((with_reducible show wpAny _ _ _ _ _ _); (fail_if_success (with_reducible show wpAny _ _ (exec (Stmt.While _ _ _ _) _) _ _ _)); (fail_if_success (with_reducible show wpAny _ _ (exec (Stmt.For _ _ _ _ _) _) _ _ _)); (first | walk1 | (dsimp only; walk1)); (try dsimp only)) | ((with_reducible show (Frag.In _ _ ∧ _)); walk1; (try dsimp only)) | ((with_reducible show ite _ _ _); walk1; (try dsimp only))))
  rename Fr _ _ _ _ => F1
  rename News _ _ _ _ => N1
  refine my_set z F1 N1 (.head (by intro p hp; cases hp)) (by omega) rfl fun h3 F3 N3 => ?_
  (repeat' (first | (k_unfold; (try dsimp only)) | ((with_reducible show wpAny _ _ _ _ _ _); (fail_if_success (with_reducible show wpAny _ _ (exec (Stmt.While _ _ _ _) _) _ _ _)); (fail_if_success (with_reducible show wpAny _ _ (exec (Stmt.For _ _ _ _ _) _) _ _ _)); (first | walk1 | (dsimp only; walk1)); (try dsimp only)) | ((with_reducible show (Frag.In _ _ ∧ _)); walk1; (try dsimp only)) | ((with_reducible show ite _ _ _); walk1; (try dsimp only))))
  refine siftup_spec (k := k) (zs := zs.set 0 z) (pos := 0) G (fun b o hb e => F3.keep b o (Kg b o hb e)) (hA.less (by omega)).deeper (N3 _ (.head _)).1
      (fun x hm => (set_mem hzg hz0g x hm).mono F3.keep) hH (by simpa using h4) (by simp; omega) fun h4 tk4 n4 e4 k4 => ?_
  have F4 := after1 F3 k4 hgl (N3 _ (.head _)).2.1
  have N4 := after1N (rest := []) N3 k4 e4 (by intro p hp; cases hp)
  clear F3 N3 F1 N1
  (repeat' (first | (k_unfold; (try dsimp only)) | ((with_reducible show wpAny _ _ _ _ _ _); (fail_if_success (with_reducible show wpAny _ _ (exec (Stmt.While _ _ _ _) _) _ _ _)); (fail_if_success (with_reducible show wpAny _ _ (exec (Stmt.For _ _ _ _ _) _) _ _ _)); (first | walk1 | (dsimp only; walk1)); (try dsimp only)) | ((with_reducible show (Frag.In _ _ ∧ _)); walk1; (try dsimp only)) | ((with_reducible show ite _ _ _); walk1; (try dsimp only))))
  exact ret _ _ n4 e4 (fun b o hb e => back F4.keep b o hb e)
end Mine

namespace Mine
open PySem PySem.W PyProof.Rows PySem.Calls
set_option maxRecDepth 100000
set_option linter.unusedVariables false

noncomputable def hfGo : Nat → List Z → List Z
  | 0, zs => zs
  | k + 1, zs => hfGo k (suL k zs)
local macro_rules | `(tactic| walk_at "subscriptTail") => `(tactic| (k_here; (with_unfolding_all refine' my_item ?k1 ?k2 ?_ ?k4; (case k1 => exact News.get (by assumption) (by k_mem)); (case k4 => with_unfolding_all rfl); (case k2 => omega); k_whole)))
local macro_rules | `(tactic| walk_at "call builtin:len") => `(tactic| (k_here; (with_unfolding_all refine' my_len ?k1 ?k2 ?_; (case k1 => exact News.get (by assumption) (by k_mem)); (case k2 => omega); k_whole)))
set_option maxHeartbeats 4000000 in
theorem heapify_spec {w : World} {A : Around} {s : Shared} {H : Heap} {Q : Value → Shared → Prop} (G : Gnd w H) (KH : Kp [] H s.heap) (hA : Arnd A 6)
    {k : Bool} {l : Addr} {zs : List Z} {n : Nat} (hl : s.heap.get? l = some (W.listOf (itemsOf zs) n)) (hz : ∀ z ∈ zs, Itm s.heap k z) (hH : H.get? l = none)
    (h3 : zs.length < 63) (h4 : 0 < zs.length)
    (ret : ∀ h' tk n', h'.get? l = some (W.listOf (itemsOf (hfGo (zs.length / 2) zs)) n') → Kp [l] s.heap h' → Q .none { s with heap := h', toks := tk }) :
    wpAny (model PG w) A (call (.ref 90) [.ref l]) Q (fun _ _ => False) s := by
  obtain ⟨p, loose, mean, mg, mb, T0⟩ := G.T
  have X0 := G.X
  have hd0 : PySem.Challenge.rw_in0189_01.foot = PySem.Challenge.rw_in0189_01.foot := rfl
  revert X0 hd0
  k_fill
  intro X0 _
  refine' enter (binds := [("x", .ref l)]) [(l, W.listOf (itemsOf zs) n)] G.X KH T0.nolimit ?hN ?hroom ?ho ?hcd ?hbind ?hloc ?h ?hcell ?hco ?hgen ?hk
  case ho => k_is
  case hN => intro p hp; simp only [List.mem_singleton] at hp; subst hp; exact ⟨hl, hH⟩
  case hroom => have := hA.dep; omega
  case hcd => k_is
  case hbind => exact BindsTo.of_eq rfl
  case hloc => exact locs rfl
  case hcell => decide
  case hco => exact rfl
  case hgen => exact rfl
  case hk => exact rfl
  intro g L' h₁ hg Kg F N hlt
  have X := X0.keeps fun b o e => Kg b o (by simp) e
  have T := T0.keeps fun b o e => Kg b o (by simp) e
  clear X0 T0
  try k_fold
  (repeat' (first | (k_unfold; (try dsimp only)) | ((with_reducible show wpAny _ _ _ _ _ _); (fail_if_success (with_reducible show wpAny _ _ (exec (Stmt.While _ _ _ _) _) _ _ _)); (fail_if_success (with_reducible show wpAny _ _ (exec (Stmt.For _ _ _ _ _) _) _ _ _)); (first | walk1 | (dsimp only; walk1)); (try dsimp only)) | ((with_reducible show (Frag.In _ _ ∧ _)); walk1; (try dsimp only)) | ((with_reducible show ite _ _ _); walk1; (try dsimp only))))
  rename News _ _ _ _ => N1
  rename Fr _ _ _ _ => F1
  have hgl : g.get? l = none := by
    cases e : g.get? l with
    | none => rfl
    | some o => exact absurd ((hg l o).mp e).1 (by simp)
  have hlL : l ≠ L' := (N1 _ (.head _)).2.1
  have hzg : ∀ z ∈ zs, Itm g k z := fun z hm => (hz z hm).hide hl fun b o hb e => (hg b o).mpr ⟨by simpa using hb, e⟩
  refine my_for_rit (n := zs.length / 2) (a := (zs.length / 2 : Nat) - 1) (c := -1) (g := g)
    (fun i m h => m "x" = some (.ref l) ∧ ∃ zs' n', h.get? l = some (W.listOf (itemsOf zs') n') ∧ zs'.length = zs.length ∧ (∀ z ∈ zs', Itm g k z) ∧ hfGo (zs.length / 2 - i) zs' = hfGo (zs.length / 2) zs) hA.hh rfl (by with_unfolding_all rfl) ?_ ?_ ?_ ?_
  · rintro i m h h' ⟨a1, zs', n', e, r⟩ hk
    exact ⟨a1, zs', n', hk _ _ hlL (list_ne (by decide)) e, r⟩
  · (repeat' (first | (k_unfold; (try dsimp only)) | ((with_reducible show wpAny _ _ _ _ _ _); (fail_if_success (with_reducible show wpAny _ _ (exec (Stmt.While _ _ _ _) _) _ _ _)); (fail_if_success (with_reducible show wpAny _ _ (exec (Stmt.For _ _ _ _ _) _) _ _ _)); (first | walk1 | (dsimp only; walk1)); (try dsimp only)) | ((with_reducible show (Frag.In _ _ ∧ _)); walk1; (try dsimp only)) | ((with_reducible show ite _ _ _); walk1; (try dsimp only))))
    rename Fr _ _ _ _ => F2
    rename News _ _ _ _ => N2
    rename IsRange _ _ _ _ _ _ _ _ => R
    rw [fdiv2] at R
    refine call_reversed_rng (by omega) R ?_
    refine wpAny_pyIter_rit (Heap.get?_push_size _ rfl) ?_
    exact ⟨_, _, _, _, rfl, rfl, Heap.get?_push_size _ rfl, fresh_none F2, fresh_ne F2, F2.push _, rfl, zs, n, Heap.get?_push_of_some _ (N2 _ (.head _)).1, rfl, hzg, rfl⟩
  · rintro i I ro m h tk t hi ⟨a1, zs', n', e, hlen, hit, hgo⟩ hgI hIL hro hI F
    have F2 : Fr g L' h _ := known2 (a := "i") (b := "x") F rfl a1
    have N2 : News g L' h [(l, W.listOf (itemsOf zs') n')] := by
      intro p hp
      rw [List.mem_singleton.mp hp]
      exact ⟨e, hlL, hgl⟩
    have N3 : News g L' h [(I, ro)] := by
      intro p hp
      rw [List.mem_singleton.mp hp]
      exact ⟨hI, hIL, hgI⟩
    have hlI : I ≠ l := fun q => by
      subst q; rw [hI] at e; cases e; exact list_ne (by decide) hro
    clear F F1 N1
    (repeat' (first | (k_unfold; (try dsimp only)) | ((with_reducible show wpAny _ _ _ _ _ _); (fail_if_success (with_reducible show wpAny _ _ (exec (Stmt.While _ _ _ _) _) _ _ _)); (fail_if_success (with_reducible show wpAny _ _ (exec (Stmt.For _ _ _ _ _) _) _ _ _)); (first | walk1 | (dsimp only; walk1)); (try dsimp only)) | ((with_reducible show (Frag.In _ _ ∧ _)); walk1; (try dsimp only)) | ((with_reducible show ite _ _ _); walk1; (try dsimp only))))
    have ev : ((zs.length / 2 : Nat) : Int) - 1 + (i : Nat) * -1 = ((zs.length / 2 - 1 - i : Nat) : Int) := by omega
    rw [ev]
    refine siftup_spec (k := k) (zs := zs') (pos := zs.length / 2 - 1 - i) G (fun b o hb e => F2.keep b o (Kg b o hb e)) (hA.less (by omega)).deeper (N2 _ (.head _)).1
      (fun x hm => (hit x hm).mono F2.keep) hH (by omega) (by omega) fun h4 tk4 n4 e4 k4 => ?_
    have F4 := after1 F2 k4 hgl (N2 _ (.head _)).2.1
    have N4 := after1N (rest := []) N2 k4 e4 (by intro p hp; cases hp)
    have hI4 := k4 _ _ (by simpa using hlI) hI
    clear F2 N2 N3
    (repeat' (first | (k_unfold; (try dsimp only)) | ((with_reducible show wpAny _ _ _ _ _ _); (fail_if_success (with_reducible show wpAny _ _ (exec (Stmt.While _ _ _ _) _) _ _ _)); (fail_if_success (with_reducible show wpAny _ _ (exec (Stmt.For _ _ _ _ _) _) _ _ _)); (first | walk1 | (dsimp only; walk1)); (try dsimp only)) | ((with_reducible show (Frag.In _ _ ∧ _)); walk1; (try dsimp only)) | ((with_reducible show ite _ _ _); walk1; (try dsimp only))))
    refine ⟨_, _, _, rfl, hI4, F4, rfl, suL (zs.length / 2 - 1 - i) zs', n4, e4, ?_, ?_, ?_⟩
    · rw [suL_length (by omega)]; exact hlen
    · exact fun z hm => hit z ((suL_perm (by omega)).mem_iff.mp hm)
    · rw [← hgo, show zs.length / 2 - i = (zs.length / 2 - 1 - i) + 1 by omega, hfGo, show zs.length / 2 - (i + 1) = zs.length / 2 - 1 - i by omega]
  · rintro m h tk ⟨a1, zs', n', e, hlen, hit, hgo⟩ F
    (repeat' (first | (k_unfold; (try dsimp only)) | ((with_reducible show wpAny _ _ _ _ _ _); (fail_if_success (with_reducible show wpAny _ _ (exec (Stmt.While _ _ _ _) _) _ _ _)); (fail_if_success (with_reducible show wpAny _ _ (exec (Stmt.For _ _ _ _ _) _) _ _ _)); (first | walk1 | (dsimp only; walk1)); (try dsimp only)) | ((with_reducible show (Frag.In _ _ ∧ _)); walk1; (try dsimp only)) | ((with_reducible show ite _ _ _); walk1; (try dsimp only))))
    rw [Nat.sub_self] at hgo
    rw [hfGo] at hgo
    subst hgo
    exact ret _ _ n' e (fun b o hb e => F.keep b o ((hg b o).mpr ⟨by simpa using hb, e⟩))
end Mine

namespace Mine
open PySem PySem.W PyProof.Rows PySem.Calls
set_option linter.unusedVariables false

theorem pushL_perm (zs : List Z) (z : Z) : (pushL zs z).Perm (zs ++ [z]) := by
  unfold pushL
  refine (sdGo_perm _ _ _ _ (by simp)).trans ?_
  simp
theorem pushL_heap {zs : List Z} {z : Z} (h : HeapFrom 0 zs) : HeapFrom 0 (pushL zs z) := by
  unfold pushL
  have hlen : (zs ++ [z]).length = zs.length + 1 := by simp
  have low : ∀ i, i < zs.length → at_ (zs ++ [z]) i = at_ zs i := fun i hi => by simp [at_, List.getElem?_append_left hi]
  refine sdGo_heap _ _ _ _ (by (first | lia | omega)) (Desc.zero _) ?_ ?_ ?_
  · intro i hi hl hlo e e2
    rw [low _ (by (first | lia | omega)), low _ (by (first | lia | omega))]
    exact h i hi (by (first | lia | omega)) hlo
  · intro i hi hl e; (first | lia | omega)
  · intro i hi hl e; (first | lia | omega)

theorem pop_perm (zs : List Z) (z : Z) : (popV zs z :: popL zs z).Perm (zs ++ [z]) := by
  cases zs with
  | nil => exact List.Perm.refl _
  | cons y r =>
    show (y :: suL 0 (z :: r)).Perm (y :: (r ++ [z]))
    exact ((suL_perm (by simp)).trans (List.perm_append_comm (l₁ := [z]) (l₂ := r))).cons y
theorem popL_heap {zs : List Z} {z : Z} (h : HeapFrom 0 (zs ++ [z])) : HeapFrom 0 (popL zs z) := by
  cases zs with
  | nil => intro i hi hl; simp [popL] at hl
  | cons y r =>
    refine suL_heap (by simp) fun i hi hl hlo => ?_
    have hlen : (y :: r ++ [z]).length = r.length + 2 := by simp
    have hlen2 : (z :: r).length = r.length + 1 := by simp
    have low : ∀ i, 0 < i → i < r.length + 1 → at_ (z :: r) i = at_ (y :: r ++ [z]) i := fun i hi hl => by
      obtain ⟨j, rfl⟩ : ∃ j, i = j + 1 := ⟨i - 1, by (first | lia | omega)⟩
      have hj : j < r.length := by (first | lia | omega)
      simp [at_, List.getElem?_append_left hj]
    rw [low _ (by (first | lia | omega)) (by (first | lia | omega)), low _ (by (first | lia | omega)) (by (first | lia | omega))]
    exact h i hi (by (first | lia | omega)) (Nat.zero_le _)
theorem popV_min {zs : List Z} {z : Z} (h : HeapFrom 0 (zs ++ [z])) {y : Z} (hy : y ∈ zs ++ [z]) : zle (popV zs z) y := by
  have e : popV zs z = at_ (zs ++ [z]) 0 := by cases zs <;> rfl
  rw [e]
  exact root_min_mem h hy

theorem replace_perm {zs : List Z} {z : Z} (h : 0 < zs.length) : (at_ zs 0 :: suL 0 (zs.set 0 z)).Perm (z :: zs) := by
  cases zs with
  | nil => simp at h
  | cons y r =>
    show (y :: suL 0 (z :: r)).Perm (z :: y :: r)
    exact ((suL_perm (by simp)).cons y).trans (List.Perm.swap z y r)
theorem replace_heap {zs : List Z} {z : Z} (h0 : 0 < zs.length) (h : HeapFrom 0 zs) : HeapFrom 0 (suL 0 (zs.set 0 z)) := by
  refine suL_heap (by simpa using h0) fun i hi hl hlo => ?_
  simp only [List.length_set] at hl
  rw [at_set_ne (by (first | lia | omega)), at_set_ne (by (first | lia | omega))]
  exact h i hi hl (Nat.zero_le _)

theorem hfGo_facts : ∀ (k : Nat) (zs : List Z), k ≤ zs.length → HeapFrom k zs → (hfGo k zs).Perm zs ∧ HeapFrom 0 (hfGo k zs) := by
  intro k
  induction k with
  | zero => intro zs _ h; exact ⟨List.Perm.refl _, h⟩
  | succ k ih =>
    intro zs hk h
    have p := suL_perm (zs := zs) (pos := k) (by (first | lia | omega))
    have := ih (suL k zs) (by rw [p.length_eq]; (first | lia | omega)) (suL_heap (by (first | lia | omega)) h)
    exact ⟨this.1.trans p, this.2⟩
theorem heapify_facts (zs : List Z) : (hfGo (zs.length / 2) zs).Perm zs ∧ HeapFrom 0 (hfGo (zs.length / 2) zs) :=
  hfGo_facts _ _ (by (first | lia | omega)) fun i hi hl hlo => by (first | lia | omega)
end Mine

namespace Mine
open PySem PySem.W PyProof.Rows PySem.Calls
set_option maxRecDepth 100000
set_option linter.unusedVariables false

abbrev bookObj (dx : Addr) (es : List DictEntry) (n : Nat) : Obj := { cls := .ref 58, dict := some dx, data := .dict es.toArray n, slots := #[some (.type "list")] }
abbrev rawBook (dx : Addr) : Obj := { cls := .ref 58, dict := some dx, data := .dict #[] 0, slots := #[] }

theorem clsWit {K : Frag} {h : Heap} {C : Addr} {oc : Value} {od : Option Addr} {cd : ClassData} {sl : Array (Option Value)} {l : List Value} (X : K.In h) (ho : K.lookup C = some ⟨oc, od, .cls cd, sl⟩) (h1 : cd.abstract = false) (h2 : cd.hasDel = false) (h3 : cd.mro = l) :
    ∃ oc od cd sl, h.get? C = some ⟨oc, od, .cls cd, sl⟩ ∧ cd.abstract = false ∧ cd.hasDel = false ∧ cd.mro = l := ⟨_, _, _, _, X _ _ ho, h1, h2, h3⟩

set_option maxHeartbeats 4000000 in
theorem cls_facts {w : World} {h : Heap} (X : (hd.heap_39 w.params).In h) :
    (∃ oc od cd sl, h.get? 58 = some ⟨oc, od, .cls cd, sl⟩ ∧ cd.abstract = false ∧ cd.hasDel = false ∧ cd.mro = [Value.ref 58, Value.type "collections.defaultdict", Value.type "dict", Value.type "object"]) ∧
    Looks (model PG w) h (Bind.madeBy (.ref 58)) (some "dict.__new__") ∧ Looks (model PG w) h (Bind.staticBase (.ref 58)) (.ref 58) ∧ Looks (model PG w) h (isSubtype (.ref 58) (.ref 58)) true ∧ Looks (model PG w) h (isSubtype (.ref 58) (.type "object")) true ∧
    Looks (model PG w) h (isSubtype (.ref 58) (.type "dict")) true ∧ Looks (model PG w) h (specialOf (.ref 58) "__call__") (some (.builtin "type.__call__")) ∧ Looks (model PG w) h (isInstance (.ref 58) (.type "type")) true ∧
    Looks (model PG w) h (typeLookup (.ref 58) "__init__") (some (.builtin "collections.defaultdict.__init__")) ∧ Looks (model PG w) h (isSubtype (.ref 58) (.type "collections.defaultdict")) true ∧
    Looks (model PG w) h (isSubtype (.ref 58) (.type "collections.OrderedDict")) false := by
  have hd0 : PySem.Challenge.rw_in0189_01.foot = PySem.Challenge.rw_in0189_01.foot := rfl
  revert X hd0
  k_fill
  intro X _
  refine ⟨?_, ?_, ?_, ?_, ?_, ?_, ?_, ?_, ?_, ?_, ?_⟩
  · refine' clsWit X ?e ?f ?g ?i
    case e => k_is
    all_goals rfl
  · exact Looks.of_peek X (by kernel_rfl)
  · exact Looks.of_peek X (by kernel_rfl)
  · exact looks_subIn X (by k_is)
  · exact looks_subIn X (by k_is)
  · exact looks_subIn X (by k_is)
  · exact looks_specialIn X (by k_is)
  · exact looks_instIn X (by k_is)
  · exact looks_findIn X (by k_is)
  · exact looks_subIn X (by k_is)
  · exact looks_subIn X (by k_is)

section
variable {w : World} {A : Around} {E : Value → Shared → Prop} {R : Result → Shared → Prop} {h : Heap} {g : Array GenState} {d : Drawn} {t : Nat} {os : OsState}
theorem entry_dict_new : entryFor table "dict.__new__" = some Builtin.«dict.__new__» := entryFor_of_tree (by kernel_rfl)
theorem entry_dict_init : entryFor table "dict.__init__" = some Builtin.«dict.__init__» := entryFor_of_tree (by kernel_rfl)
theorem entry_dd_init : entryFor table "collections.defaultdict.__init__" = some Builtin.«collections.defaultdict.__init__» := entryFor_of_tree (by kernel_rfl)

set_option maxHeartbeats 4000000 in
theorem new_book (X : (hd.heap_39 w.params).In h) (hq : R (.ok (.ret (.ref (h.objs.size + 1)))) ⟨(h.push emptyDict).push (rawBook h.objs.size), g, d, t, os⟩) :
    codeAny (model PG w) A (.call (.builtin "dict.__new__") ⟨[.ref 58, .type "list"], []⟩) R ⟨h, g, d, t, os⟩ := by
  obtain ⟨⟨oc, od, cd, sl, hC, e1, e2, e4⟩, made, base, self, top, isd, call, typ, hi, isdd, isod⟩ := cls_facts X
  refine codeAny_call_builtin_code (Code.quiet_builtin _ (by decide +kernel)) ?_
  refine (Looks.of_peek (r := ()) X (by kernel_rfl)).at ?_
  refine codeAny_builtin entry_dict_new ?_
  rw [Around.under_plainId (by decide +kernel) _]
  unfold Builtin.«dict.__new__»
  dsimp only
  refine wpAny_bind ((Looks.of_peek (r := true) X (by kernel_rfl)).at ?_)
  simp only [Bool.not_true, Bool.false_eq_true, if_false]
  refine wpAny_bind (isd.at ?_)
  simp only [Bool.not_true, Bool.false_eq_true, if_false]
  refine wpAny_bind ((Looks.of_peek (r := [Value.ref 58, Value.type "collections.defaultdict", Value.type "dict", Value.type "object"]) X (by kernel_rfl)).at ?_)
  rw [if_neg (by decide)]
  refine wpAny_bind (wpAny_alloc ?_)
  refine wpAny_bind ?_
  have hC2 := Heap.get?_push_of_some (rawBook h.objs.size) (Heap.get?_push_of_some emptyDict hC)
  show wpAny _ _ (newObjAsIs (.ref 58) (.dict #[]) (some h.objs.size)) _ _ _
  unfold newObjAsIs classHasDel
  refine wpAny_bind (wpAny_alloc (wpAny_bind (wpAny_bind (wpAny_load hC2 (wpAny_pure ?_)))))
  rw [e2]
  refine wpAny_pure (wpAny_pure ?_)
  show R _ _
  rw [Heap.size_push]
  exact hq

abbrev madeBook (dx : Addr) : Obj := bookObj dx [] 0

set_option maxHeartbeats 4000000 in
theorem init_book {a dx : Addr} (X : (hd.heap_39 w.params).In h) (ha : h.get? a = some (rawBook dx))
    (hX : ∀ h', Heap.SameBut a h h' → (hd.heap_39 w.params).In h')
    (hq : ∀ h', h'.get? a = some (madeBook dx) → Heap.SameBut a h h' → R (.ok (.ret .none)) ⟨h', g, d, t, os⟩) :
    codeAny (model PG w) A (.call (.builtin "collections.defaultdict.__init__") ⟨[.ref a, .type "list"], []⟩) R ⟨h, g, d, t, os⟩ := by
  obtain ⟨⟨oc, od, cd, sl, hC, e1, e2, e4⟩, made, base, self, top, isd, call, typ, hi, isdd, isod⟩ := cls_facts X
  have ta : Looks (model PG w) h (typeOf (.ref a)) (.ref 58) := (Looks.ld ha).andThen .now
  refine codeAny_call_builtin_code (Code.quiet_builtin _ (by decide +kernel)) ?_
  refine check_slot (i := "collections.defaultdict.__init__") (owner := "collections.defaultdict") (n := "__init__") (by decide +kernel) (by decide +kernel) (ta.andThen isdd) (by unfold argsOk; kernel_rfl) ?_
  refine codeAny_builtin entry_dd_init ?_
  rw [Around.under_plainId (by decide +kernel) _]
  unfold Builtin.«collections.defaultdict.__init__»
  dsimp only
  have sp : Looks (model PG w) h (specialOf (.type "list") "__call__") (some (.builtin "type.__call__")) := Looks.of_peek X (by kernel_rfl)
  have sl0 : Looks (model PG w) h (slotAt a 0) none := (Looks.ld ha).andThen (Looks.of_pure rfl)
  simp only [List.head?_cons]
  rw [if_pos (by decide)]
  refine wpAny_bind (sp.at ?_)
  simp only [Option.isNone_some, Bool.false_eq_true, if_false]
  refine wpAny_bind (sl0.at ?_)
  refine wpAny_bind ?_
  unfold Builtin.Collections_defaultdict.setFactory
  dsimp only
  refine wpAny_bind (sl0.at ?_)
  simp only [Option.getD_none]
  rw [if_pos (by decide)]
  refine wpAny_bind (wpAny_pure ?_)
  unfold setSlotAt
  rw [if_neg (by rw [sizeLine_eq]; decide)]
  refine wpAny_updatePart ha ?_
  dsimp only
  have sb := Heap.SameBut.update h a fun o => { o with slots := (o.slots ++ Array.replicate (0 + 1 - o.slots.size) none).setIfInBounds 0 (some (Value.type "list")) }
  have ha' := Heap.get?_update_self (fun o : Obj => { o with slots := (o.slots ++ Array.replicate (0 + 1 - o.slots.size) none).setIfInBounds 0 (some (Value.type "list")) }) ha rfl
  generalize h.update a (fun o => { o with slots := (o.slots ++ Array.replicate (0 + 1 - o.slots.size) none).setIfInBounds 0 (some (Value.type "list")) }) = h' at sb ha' ⊢
  have ha2 : h'.get? a = some (madeBook dx) := by rw [ha']; rfl
  obtain ⟨_, _, _, _, isd', _, _, _, isdd', isod'⟩ := (cls_facts (hX h' sb)).2
  have ta' : Looks (model PG w) h' (typeOf (.ref a)) (.ref 58) := (Looks.ld ha2).andThen .now
  refine wpAny_bind (wpAny_holding (wpAny_runValue (codeAny_builtin entry_dict_init ?_)))
  rw [Around.under_plainId (by decide +kernel) _]
  unfold Builtin.«dict.__init__»
  have sr : Looks (model PG w) h' (Builtin.Dict.selfAndRest "__init__" ⟨[.ref a], []⟩) (a, []) := by
    unfold Builtin.Dict.selfAndRest
    refine Looks.andThen (a := ()) ?_ (Looks.of_pure rfl)
    unfold Builtin.Dict.notOrdered
    rw [if_pos (by decide)]
    refine ta'.andThen ?_
    rw [if_pos (by decide)]
    exact (ta'.andThen isod').andThen (Looks.of_pure rfl)
  refine wpAny_bind (sr.at ?_)
  refine wpAny_bind (wpAny_of_eq (a := ()) rfl ?_)
  exact wpAny_pure (wpAny_pure (hq h' ha2 sb))

theorem ddi_bind (self : Value) : bindSpecial (.builtin "collections.defaultdict.__init__") self = pure (.builtin "collections.defaultdict.__init__", [self]) :=
  (Slot.of (T := "collections.defaultdict") (name := "__init__") (owner := "collections.defaultdict") (n := "__init__") (by rw [typeLookup_type, builtinLookup_eq_fast]; kernel_rfl) (by decide +kernel) (by decide +kernel) (by decide +kernel)
    (by first | exact .inl (by decide +kernel) | exact .inr (by decide +kernel)) (by rw [isSubtype_type]; kernel_rfl)).bind self

theorem call_book (X : (hd.heap_39 w.params).In h)
    (hq : ∀ h', h'.get? h.objs.size = some emptyDict → h'.get? (h.objs.size + 1) = some (madeBook h.objs.size) → (∀ b o, h.get? b = some o → h'.get? b = some o) →
      R (.ok (.ret (.ref (h.objs.size + 1)))) ⟨h', g, d, t, os⟩) :
    codeAny (model PG w) A (.call (.ref 58) ⟨[.type "list"], []⟩) R ⟨h, g, d, t, os⟩ := by
  obtain ⟨⟨oc, od, cd, sl, hC, e1, e2, e4⟩, made, base, self, top, isd, call, typ, hi, isdd, isod⟩ := cls_facts X
  refine codeAny_of_tree ?_
  show wpAny _ _ (callAny (.ref 58) _) _ _ _
  refine nd_load hC ?_
  show wpAny _ _ (callAny.viaDunder (.ref 58) _) _ _ _
  unfold callAny.viaDunder
  refine wpAny_bind (call.at ?_)
  dsimp only
  rw [tc_bind]
  refine wpAny_bind (wpAny_pure (wpAny_bind (wpAny_pure ?_)))
  refine wpAny_pure (a := Fin.again (.call (.builtin "type.__call__") ⟨.ref 58 :: [.type "list"], []⟩)) (And.intro rfl ?_)
  refine codeAny_call_builtin_at (Code.quiet_builtin _ (by decide +kernel)) entry_typeCall (check_slot tc_kind tc_split typ (tc_args _ _ _) ?_)
  unfold Builtin.«type.__call__»
  have hm : Looks (model PG w) h (mroOf (.ref 58)) cd.mro := ((Looks.ld (part := none) hC).andThen .now).andThen .now
  repeat (first | simp only [e4, List.isEmpty_cons, Bool.false_eq_true, if_false] | with_reducible refine wpAny_call ?_ | lk)
  refine new_book X ?_
  have k : ∀ b o, h.get? b = some o → ((h.push emptyDict).push (rawBook h.objs.size)).get? b = some o := fun b o e => Heap.get?_push_of_some _ (Heap.get?_push_of_some _ e)
  have hx : ((h.push emptyDict).push (rawBook h.objs.size)).get? (h.objs.size + 1) = some (rawBook h.objs.size) := by
    have := Heap.get?_push_size (h.push emptyDict) (o := rawBook h.objs.size) rfl
    rwa [Heap.size_push] at this
  have hy : ((h.push emptyDict).push (rawBook h.objs.size)).get? h.objs.size = some emptyDict := Heap.get?_push_of_some _ (Heap.get?_push_size _ rfl)
  have X2 := X.keeps k
  have nk : ∀ b o, (hd.heap_39 w.params).lookup b = some o → b ≠ h.objs.size + 1 := fun b o e q => by
    exact Nat.ne_of_lt (Nat.lt_succ_of_lt (Heap.lt_size (X b o e))) q
  generalize (h.push emptyDict).push (rawBook h.objs.size) = h2 at k hx hy X2 ⊢
  have t1 : Looks (model PG w) h2 (typeOf (.ref (h.objs.size + 1))) (.ref 58) := (Looks.ld hx).andThen .now
  have s1 := self.keeps k
  have i1 := hi.keeps k
  have b1 : Looks (model PG w) h2 (bindSpecial (.builtin "collections.defaultdict.__init__") (.ref (h.objs.size + 1))) (.builtin "collections.defaultdict.__init__", [.ref (h.objs.size + 1)]) := Looks.of_pure (ddi_bind _)
  dsimp only
  unfold isInstance callSpecial? specialOf
  repeat (first | with_reducible refine wpAny_call ?_ | lk)
  refine init_book X2 hx (fun h' sb => fun b o e => (sb.2 b (nk b o e)).trans (X2 b o e)) fun h' hb sb => ?_
  refine wpAny_pure (wpAny_pure ?_)
  exact hq h' ((sb.2 _ (Nat.ne_of_lt (Nat.lt_succ_self _))).trans hy) hb fun b o e => (sb.2 b (Nat.ne_of_lt (Nat.lt_succ_of_lt (Heap.lt_size e)))).trans (k b o e)
end
end Mine

namespace Mine
open PySem PySem.W PyProof.Rows PySem.Calls
set_option maxRecDepth 100000
set_option linter.unusedVariables false
section
variable {w : World} {A : Around} {E : Value → Shared → Prop} {h : Heap} {g : Array GenState} {d : Drawn} {t : Nat} {os : OsState}

theorem dm_type : typeOf (.builtin "collections.defaultdict.__missing__") = pure (.type "method_descriptor") := by show builtinType _ = _; rw [builtinType_eq_fast]; kernel_rfl
theorem slot_md_get : Slot "method_descriptor" "__get__" "method_descriptor.__get__" := .of (owner := "method_descriptor") (n := "__get__") (by rw [typeLookup_type, builtinLookup_eq_fast]; kernel_rfl) (by decide +kernel) (by decide +kernel) (by decide +kernel)
  (by first | exact .inl (by decide +kernel) | exact .inr (by decide +kernel)) (by rw [isSubtype_type]; kernel_rfl)
theorem entry_md_get : entryFor table "method_descriptor.__get__" = some Builtin.«method_descriptor.__get__» := entryFor_of_tree (by kernel_rfl)
theorem args_md_get (a b c : Value) : argsOk "method_descriptor.__get__" ⟨[a, b, c], []⟩ := by unfold argsOk; kernel_rfl

abbrev boundMiss (x : Addr) : Obj := { cls := .type "builtin_function_or_method", data := .fields #[.builtin "collections.defaultdict.__missing__", .ref x] }
abbrev superObj (x : Addr) : Obj := { cls := .type "super", data := .fields #[.ref 58, .ref x, .ref 58] }

set_option maxHeartbeats 4000000 in
theorem md_get_dm {x dx : Addr} {es : List DictEntry} {n : Nat} {Q : PySem.Fin → Shared → Prop} (X : (hd.heap_39 w.params).In h) (hx : h.get? x = some (bookObj dx es n))
    (hq : Q (.done (.ret (.ref h.objs.size))) ⟨h.push (boundMiss x), g, d, t, os⟩) :
    wpAny (model PG w) A (Builtin.«method_descriptor.__get__» ⟨[.builtin "collections.defaultdict.__missing__", .ref x, .ref 58], []⟩) Q E ⟨h, g, d, t, os⟩ := by
  obtain ⟨⟨oc, od, cd, sl, hC, e1, e2, e4⟩, made, base, self, top, isd, call, typ, hi, isdd, isod⟩ := cls_facts X
  have ta : Looks (model PG w) h (typeOf (.ref x)) (.ref 58) := (Looks.ld hx).andThen .now
  have ec : Manifest.toldItsClass.contains "collections.defaultdict.__missing__" = false := by decide +kernel
  unfold Builtin.«method_descriptor.__get__»
  dsimp only
  repeat (first
    | (with_reducible refine Looks.at ta ?_)
    | (with_reducible refine Looks.at isdd ?_)
    | wp_step
    | dsimp only)
  have eo : (".".intercalate ("collections.defaultdict.__missing__".cutAt '.').dropLast) = "collections.defaultdict" := by decide +kernel
  rw [eo]
  refine isdd.at ?_
  simp only [Bool.not_true, Bool.false_eq_true, if_false]
  refine wpAny_pure ?_
  exact wpAny_bind (wpAny_newObj_type (wpAny_pure hq))
end
end Mine

namespace Mine
open PySem PySem.W PyProof.Rows PySem.Calls
set_option maxRecDepth 100000
set_option linter.unusedVariables false
section
variable {w : World} {A : Around} {E : Value → Shared → Prop} {h : Heap} {g : Array GenState} {d : Drawn} {t : Nat} {os : OsState}

set_option maxHeartbeats 800000 in
theorem sup_ga {so x dx : Addr} {es : List DictEntry} {n : Nat} {tk : Tok} {Q : PySem.Fin → Shared → Prop} (X : (hd.heap_39 w.params).In h)
    (hso : h.get? so = some (superObj x)) (hx : h.get? x = some (bookObj dx es n)) (hxC : x ≠ 58)
    (hq : Q (.done (.ret (.ref h.objs.size))) ⟨h.push (boundMiss x), g, d, t, os⟩) :
    wpAny (model PG w) A (Builtin.«super.__getattribute__» ⟨[.ref so, .str "__missing__" tk], []⟩) Q E ⟨h, g, d, t, os⟩ := by
  obtain ⟨⟨oc, od, cd, sl, hC, e1, e2, e4⟩, made, base, self, top, isd, call, typ, hi, isdd, isod⟩ := cls_facts X
  have hno : Looks (model PG w) h (opaqueClassAbove (.ref 58)) none := Looks.of_peek X (by kernel_rfl)
  have hm : Looks (model PG w) h (mroOf (.ref 58)) [Value.ref 58, Value.type "collections.defaultdict", Value.type "dict", Value.type "object"] := Looks.of_peek X (by kernel_rfl)
  have hown : Looks (model PG w) h (classOwn (.type "collections.defaultdict") "__missing__") (some (.builtin "collections.defaultdict.__missing__")) := Looks.of_peek X (by kernel_rfl)
  have hne : (Value.ref x == Value.ref 58) = false := by simp [hxC]
  unfold Builtin.«super.__getattribute__»
  repeat (first
    | (with_reducible refine wpAny_field hso rfl (x := .ref 58) rfl ?_) | (with_reducible refine wpAny_field hso rfl (x := .ref x) rfl ?_)
    | (with_reducible refine ks_wpAny_notOpaque hno ?_)
    | (with_reducible refine Looks.at hm ?_)
    | (simp only [hne, Bool.or_false, Bool.false_eq_true, if_false])
    | wp_step
    | dsimp only)
  have en : (toString "collections.defaultdict" ++ toString "." ++ toString (Str.ofString "__missing__").toString) = "collections.defaultdict.__missing__" := by decide +kernel
  rw [en]
  have eb : builtinKind "collections.defaultdict.__missing__" = some .method := by decide +kernel
  rw [eb]
  dsimp only
  refine wpAny_of_eq slot_md_get.lookup ?_
  dsimp only
  refine wpAny_bind (wpAny_holding (wpAny_call_entry slot_md_get dm_type entry_md_get ?_ (args_md_get _ _ _)))
  refine md_get_dm X hx ?_
  refine ⟨_, rfl, ?_⟩
  refine wpAny_bind ?_
  refine wpAny_pure (a := PySem.Fin.done (.ret (.ref h.objs.size))) ?_
  refine wpAny_pure ?_
  dsimp only
  refine wpAny_pure ?_
  dsimp only
  exact wpAny_pure hq
end
end Mine

namespace Mine
open PySem PySem.W PyProof.Rows PySem.Calls
set_option maxRecDepth 100000
set_option linter.unusedVariables false
abbrev wpA {α : Type} := @_root_.PySem.wpAt α

theorem enterAt {w : World} {A : Around} {s : Shared} {H : Heap} {K : Frag} {Q : Value → Shared → Prop} {name qual : Str} {params : Arguments} {body : List Stmt} {scope : Scope} {cc : Addr}
    {dV kV doc pm cdv ct oc : Value} {an od : Option Addr} {osl : Array (Option Value)} {f : Addr} {args : List Value} {binds : List (Str × Value)} (news : List (Addr × Obj))
    (X : K.In H) (KH : Kp [] H s.heap) (hlim : H.NoLimit) (hN : ∀ p ∈ news, s.heap.get? p.1 = some p.2 ∧ H.get? p.1 = none)
    (hroom : A.depth < recursionLimit)
    (ho : K.lookup f = some ⟨oc, od, .func (ksFn name qual params body scope dV kV doc pm an cdv ct cc), osl⟩) (hcd : codeIn K cdv qual = true)
    (hbind : BindsTo s (ksFn name qual params body scope dV kV doc pm an cdv ct cc) ⟨args, []⟩ binds) (hloc : ∀ y ∈ binds, scope.names.lookup y.1 = some .local)
    (h : ∀ g L' h₁, (∀ b o, g.get? b = some o ↔ (b ∉ news.map (·.1) ∧ s.heap.get? b = some o)) → Kp [] H g → Fr g L' h₁ (fun y => binds.reverse.lookup y) → News g L' h₁ news → (∀ p ∈ news, p.1 < L') →
      wpA (model PG w) (A.deeper (ksEnv qual scope L' f cdv cc)) (.func body (ksEnv qual scope L' f cdv cc)) (execs body (ksEnv qual scope L' f cdv cc))
        (fun fl s' => Q (match fl with | .ret v => v | _ => .none) s') (fun _ _ => False)
        { s with heap := h₁, toks := s.toks + binds.length })
    (hcell : ∀ x ∈ scope.names, x.2 ≠ .cell) (hco : scope.isCoroutine = false) (hgen : scope.isGenerator = false) (hk : scope.kind = .function) :
    wpAny (model PG w) A (call (.ref f) args) Q (fun _ _ => False) s := by
  have KH' : ∀ b o, H.get? b = some o → s.heap.get? b = some o := fun b o e => KH b o (by simp) e
  have XS : K.In s.heap := X.keeps KH'
  refine wpAny_call (ks_codeAny_call_defAt (fd := ksFn name qual params body scope dV kV doc pm an cdv ct cc) (body := body) (binds := binds) hroom (XS _ _ ho) rfl (hlim.keeps KH') (codeRec_of XS hcd) rfl hbind hcell hloc (fun h₁ hns hk₁ => ?_) hco hgen hk)
  have hg : ∀ b o, (hideAll s.heap (news.map (·.1))).get? b = some o ↔ (b ∉ news.map (·.1) ∧ s.heap.get? b = some o) := fun b o => by
    constructor
    · intro e
      refine ⟨fun m => ?_, of_hideAll _ e⟩
      rw [hideAll_none _ m] at e; cases e
    · rintro ⟨n, e⟩
      exact hideAll_get _ e n
  have := h (hideAll s.heap (news.map (·.1))) s.heap.objs.size h₁ hg (fun b o _ e => (hg b o).mpr ⟨fun m => (by
      obtain ⟨p, hp, rfl⟩ := List.mem_map.mp m
      rw [(hN p hp).2] at e; cases e), KH' b o e⟩)
    ⟨hns, fun b o e => hk₁ b o (of_hideAll _ e), Nat.le_of_eq (hideAll_size _ _)⟩
    (fun p hp => ⟨hk₁ _ _ (hN p hp).1, Nat.ne_of_lt (Heap.lt_size (hN p hp).1), hideAll_none _ (List.mem_map_of_mem hp)⟩) (fun p hp => Heap.lt_size (hN p hp).1)
  exact ks_wpAt_mono this (fun fl s' hq => hq) fun _ _ x => x.elim

section
variable {prog : Program} {w : World} {A : Around} {c : Code} {E : Value → Shared → Prop} {s : Shared} {env : Env}
theorem at_Call {func : Expr} {args : List Expr} {pos : Pos} {Q : Value → Shared → Prop}
    (h : wpA (model prog w) A c (eval func env) (fun fv s₁ => wpAny (model prog w) A (callWith pos fv [] (backTo pos (starEach args env)) []) Q E s₁) E s)
    (he : eval (.Call func args [] pos) env = (do callWith pos (← eval func env) [] (backTo pos (starEach args env)) []) := by rfl) : wpA (model prog w) A c (eval (.Call func args [] pos) env) Q E s := by
  rw [he]
  exact _root_.PySem.wpAt_bind (_root_.PySem.wpAt_mono h (fun fv s₁ h₁ => _root_.PySem.wpAt_of_wpAny h₁) fun _ _ x => x)

theorem at_spliced3 {x1 x2 x3 : Sem Value} {Q : List Value → Shared → Prop}
    (h : wpAny (model prog w) A x1 (fun v1 s₁ => wpAny (model prog w) A x2 (fun v2 s₂ => wpA (model prog w) A c x3 (fun v3 s₃ => Q [v1, v2, v3] s₃) E s₂) E s₁) E s) :
    wpA (model prog w) A c (spliced [(false, x1), (false, x2), (false, x3)]) Q E s := by
  unfold spliced
  refine _root_.PySem.wpAt_bind (_root_.PySem.wpAt_of_wpAny (wpAny_mono h (fun v1 s₁ h₁ => ?_) fun _ _ x => x))
  refine _root_.PySem.wpAt_bind (_root_.PySem.wpAt_of_wpAny (wpAny_pure ?_))
  refine _root_.PySem.wpAt_bind (ks_wpAt_holding ?_)
  unfold spliced
  refine _root_.PySem.wpAt_bind (_root_.PySem.wpAt_of_wpAny (wpAny_mono h₁ (fun v2 s₂ h₂ => ?_) fun _ _ x => x))
  refine _root_.PySem.wpAt_bind (_root_.PySem.wpAt_of_wpAny (wpAny_pure ?_))
  refine _root_.PySem.wpAt_bind (ks_wpAt_holding ?_)
  unfold spliced
  refine _root_.PySem.wpAt_bind (_root_.PySem.wpAt_mono h₂ (fun v3 s₃ h₃ => ?_) fun _ _ x => x)
  refine _root_.PySem.wpAt_bind (_root_.PySem.wpAt_of_wpAny (wpAny_pure ?_))
  refine _root_.PySem.wpAt_bind (ks_wpAt_holding ?_)
  unfold spliced
  refine _root_.PySem.wpAt_of_wpAny (wpAny_pure ?_)
  exact _root_.PySem.wpAt_of_wpAny (wpAny_pure (_root_.PySem.wpAt_of_wpAny (wpAny_pure (_root_.PySem.wpAt_of_wpAny (wpAny_pure h₃)))))

theorem at_evalArgs3 {f : Value} {x1 x2 x3 : Sem Value} {Q : Args → Shared → Prop}
    (h : wpA (model prog w) A c (spliced [(false, x1), (false, x2), (false, x3)]) (fun vs s₁ => Q ⟨vs, []⟩ s₁) E s) :
    wpA (model prog w) A c (evalArgs f true [(false, x1), (false, x2), (false, x3)] []) Q E s := by
  unfold evalArgs
  show wpA _ _ _ (spliced [(false, x1), (false, x2), (false, x3)] >>= _) _ _ _
  refine _root_.PySem.wpAt_bind (_root_.PySem.wpAt_mono h (fun vs s₁ h₁ => ?_) fun _ _ x => x)
  refine ks_wpAt_holding ?_
  simp only [List.all_nil, if_true, List.filterMap_nil, List.map_nil]
  refine _root_.PySem.wpAt_of_wpAny ?_
  refine wpAny_bind (wpAny_evalAll_nil ?_)
  exact wpAny_bind (wpAny_pure (wpAny_pure h₁))

theorem at_callWith3 {pos : Pos} {id : String} {x1 x2 x3 : Sem Value} {Q : Value → Shared → Prop}
    (h : wpA (model prog w) A c (spliced [(false, x1), (false, x2), (false, x3)]) (fun vs s₁ => wpAny (model prog w) A (call (.builtin id) vs) Q E s₁) E s) :
    wpA (model prog w) A c (callWith pos (.builtin id) [] [(false, x1), (false, x2), (false, x3)] []) Q E s := by
  unfold callWith
  refine _root_.PySem.wpAt_bind (ks_wpAt_holding (at_evalArgs3 (_root_.PySem.wpAt_mono h (fun vs s₁ h₁ => ?_) fun _ _ x => x)))
  refine _root_.PySem.wpAt_of_wpAny ?_
  refine wpAny_bind (wpAny_standAt ?_)
  refine wpAny_bind (wpAny_pure ?_)
  refine wpAny_bind (wpAny_mono h₁ (fun r s₂ hr => ?_) fun _ _ x => x)
  exact wpAny_bind (wpAny_holding (wpAny_point (wpAny_pure hr)))

theorem at_Attribute {value : Expr} {attr : Str} {pos : Pos} {Q : Value → Shared → Prop}
    (h : wpA (model prog w) A c (attributeBase value attr env (eval value env)) (fun o s₁ => wpAny (model prog w) A (getAttr o attr true) Q E s₁) E s) :
    wpA (model prog w) A c (eval (.Attribute value attr pos) env) Q E s := by
  show wpA _ _ _ (do
    let o ← attributeBase value attr env (eval value env)
    standAt pos.atName
    let r ← holding [o] (getAttr o attr true)
    letTemporaryGo value o r
    pure r) _ _ _
  refine _root_.PySem.wpAt_bind (_root_.PySem.wpAt_mono h (fun o s₁ h₁ => _root_.PySem.wpAt_of_wpAny ?_) fun _ _ x => x)
  refine wpAny_bind (wpAny_standAt (wpAny_bind (wpAny_holding (wpAny_mono h₁ (fun r s₂ h₂ => ?_) fun _ _ x => x))))
  exact wpAny_bind (wpAny_letTemporaryGo (wpAny_pure h₂))
end
end Mine

namespace Mine
open PySem PySem.W PyProof.Rows PySem.Calls
set_option maxRecDepth 100000
set_option linter.unusedVariables false
section
variable {w : World} {A : Around} {E : Value → Shared → Prop} {h : Heap} {g : Array GenState} {d : Drawn} {t : Nat} {os : OsState}

theorem getattr_super {so x dx : Addr} {es : List DictEntry} {n : Nat} {Q : Value → Shared → Prop} (X : (hd.heap_39 w.params).In h)
    (hso : h.get? so = some (superObj x)) (hx : h.get? x = some (bookObj dx es n)) (hxC : x ≠ 58)
    (hq : Q (.ref h.objs.size) ⟨h.push (boundMiss x), g, d, t + 1, os⟩) :
    wpAny (model PG w) A (getAttr (.ref so) "__missing__" true) Q E ⟨h, g, d, t, os⟩ := by
  have hlk := F.ks_slot_super_ga.lookup
  have hcan := F.ks_canon_super_ga
  have hT : ∀ t', (⟨h, g, d, t', os⟩ : Shared).TypeIs (.ref so) "super" := fun _ => ⟨_, hso, rfl⟩
  unfold getAttr getAttrBy
  refine (wpAny_bind (wpAny_mkText (wpAny_holding (wpAny_bind (wpAny_typeOf (hT _) (wpAny_bind (wpAny_of_eq hlk ?_)))))))
  show wpAny _ _ (getAttrByItsOwn (.ref so) (.str "__missing__" t) (.type "super") (.builtin "super.__getattribute__") true true) _ _ _
  unfold getAttrByItsOwn hookBefore callGetattribute boundAndCalled
  refine wpAny_bind (wpAny_of_eq (show (if onTheHeap (.type "super") then typeLookup (.type "super") "__getattr__" else pure none) = pure none from rfl) ?_)
  refine wpAny_bind (wpAny_attempt (wpAny_holding ?_))
  show wpAny _ _ (bindSpecial (.builtin "super.__getattribute__") (.ref so) >>= _) _ _ _
  refine wpAny_bind (wpAny_of_eq (F.ks_slot_super_ga.bind _) ?_)
  refine wpAny_mono (Q := fun v s' => v = .ref h.objs.size ∧ s' = ⟨h.push (boundMiss x), g, d, t + 1, os⟩) (E := fun _ _ => False)
    (wpAny_call_entry F.ks_slot_super_ga (hT _) F.ks_entry_super_ga (sup_ga X hso hx hxC ⟨_, rfl, rfl, rfl⟩) (F.ks_gaArgs_super _ _)) (fun v s' hv => ?_) fun _ _ z => z.elim
  obtain ⟨rfl, rfl⟩ := hv
  exact wpAny_pure hq

theorem kind_getattr' : builtinKind "getattr" = none := by decide +kernel
theorem plain_getattr' : plainId "getattr" = true := by decide +kernel
theorem entry_getattr' : entryFor table "getattr" = some Builtin.«getattr» := entryFor_of_tree (by kernel_rfl)

abbrev frzDict (hs : Int) (tk : Tok) (f : Addr) (n : Nat) : Obj := dictOf [⟨hs, .str "_frozen" tk, .ref f⟩] n

theorem findObj_miss {K : Frag} {C : Addr} {od : Obj} {name : Str} (hh : hasDictIn K C = true) (ha : findIn K (.ref C) name = some none) (hc : copiedNames.contains name = false) (hl : lookIn name od = some none) :
    findObj K C (some od) name = some .missing := by
  obtain ⟨cd, hc', hd⟩ := any_some hh
  unfold findObj
  have ho : W.ownOf cd (some od) name = some none := by unfold W.ownOf; rw [if_pos hd]; exact hl
  rw [hc', Option.bind_some, ha, Option.bind_some]
  simp only [Option.bind_some, ho, hc, Bool.false_and, Bool.false_eq_true, if_false]

theorem frz_facts {w : World} {h : Heap} (X : (hd.heap_39 w.params).In h) :
    findIn (hd.heap_39 w.params) (.ref 58) "__getattribute__" = some (some (.builtin "collections.defaultdict.__getattribute__")) ∧ findIn (hd.heap_39 w.params) (.ref 58) "__getattr__" = some none ∧
    hasDictIn (hd.heap_39 w.params) 58 = true ∧ findIn (hd.heap_39 w.params) (.ref 58) "_frozen" = some none ∧ noGet (hd.heap_39 w.params) none = true := by
  refine ⟨?_, ?_, ?_, ?_, ?_⟩
  · kernel_rfl
  · kernel_rfl
  · kernel_rfl
  · kernel_rfl
  · rfl

theorem inst_book {x dx : Addr} {es : List DictEntry} {n : Nat} {od : Obj} (hx : h.get? x = some (bookObj dx es n)) (hd : h.get? dx = some od) : InstAt h x (bookObj dx es n) 58 (some od) := ⟨hx, rfl, rfl, hd⟩
theorem slot_dd_ga : Slot "collections.defaultdict" "__getattribute__" "collections.defaultdict.__getattribute__" := .of (owner := "collections.defaultdict") (n := "__getattribute__") (by rw [typeLookup_type, builtinLookup_eq_fast]; kernel_rfl) (by decide +kernel) (by decide +kernel) (by decide +kernel)
  (by first | exact .inl (by decide +kernel) | exact .inr (by decide +kernel)) (by rw [isSubtype_type]; kernel_rfl)
theorem entry_dd_ga : entryFor table "collections.defaultdict.__getattribute__" = some Builtin.«object.__getattribute__» :=
  entryFor_alias (id' := "object.__getattribute__") (by kernel_rfl) (by decide +kernel) (by decide +kernel) (by kernel_rfl)

theorem own_getBy {x dx : Addr} {es : List DictEntry} {n : Nat} {od : Obj} {name : Str} {tk : Tok} {r : Builtin.ObjectAttr.Found} {fill expr : Bool} {Q : Value → Shared → Prop} (X : (hd.heap_39 w.params).In h)
    (hx : h.get? x = some (bookObj dx es n)) (hdx : h.get? dx = some od) (hf : findObj (hd.heap_39 w.params) 58 (some od) name = some r)
    (hq : match r with
      | .value v => wpAny (model PG w) A (handedOut v) Q E ⟨h, g, d, t, os⟩
      | .bind gg a => wpAny (model PG w) A.in1 (call gg [a, .ref x, .ref 58]) (fun v s' => wpAny (model PG w) A (handedOut v) Q E s') (fun e s' => wpAny (model PG w) A (getattributeRaised (.ref x) (.str name tk) (.ref 58) e none fill expr) Q E s') ⟨h, g, d, t, os⟩
      | .missing => A.handled = none ∧ ∀ h' t' e, Heap.NewAttrErr h h' e (.ref x) name → wpAny (model PG w) A (getattributeRaised (.ref x) (.str name tk) (.ref 58) (.ref e) none fill expr) Q E ⟨h', g, d, t', os⟩)
    (hn : (Str.ofString "'FreezableDefaultDict' object has no attribute '" ++ name ++ Str.ofString "'").length ≤ sizeLine) :
    wpAny (model PG w) A (getAttrBy (.ref x) (.str name tk) fill expr) Q E ⟨h, g, d, t, os⟩ := by
  obtain ⟨f1, f2, f3, f4, f5⟩ := frz_facts X
  obtain ⟨isdd⟩ : Nonempty (PLift (Looks (model PG w) h (isSubtype (.ref 58) (.type "collections.defaultdict")) true)) := ⟨⟨(cls_facts X).2.2.2.2.2.2.2.2.2.1⟩⟩
  have isdd := isdd.down
  have I := inst_book hx hdx
  have L0 := I.type (M := model PG w)
  have L1 := looks_findIn (M := model PG w) X f1
  have L2 := looks_find (M := model PG w) X I hf
  have L3 := looks_findIn (M := model PG w) X f2
  unfold getAttrBy
  refine wpAny_holding (wpAny_bind (L0.at (wpAny_bind (L1.at ?_))))
  show wpAny _ _ (getAttrByItsOwn _ _ _ _ _ _) _ _ _
  unfold getAttrByItsOwn hookBefore callGetattribute boundAndCalled
  rw [if_pos (show onTheHeap (.ref 58) = true from rfl)]
  refine wpAny_bind (L3.at ?_)
  refine wpAny_bind (wpAny_attempt (wpAny_holding ?_))
  rw [if_neg (show ¬ (expr && onTheHeap (.builtin "collections.defaultdict.__getattribute__")) = true from by simp [onTheHeap])]
  refine wpAny_bind (wpAny_of_eq (slot_dd_ga.bind _) ?_)
  show wpAny _ _ (call (.builtin "collections.defaultdict.__getattribute__") [.ref x, .str name tk]) _ _ _
  refine wpAny_call ?_
  refine codeAny_call_builtin_code (Code.quiet_builtin _ (by decide +kernel)) ?_
  refine check_slot (i := "collections.defaultdict.__getattribute__") (owner := "collections.defaultdict") (n := "__getattribute__") (by decide +kernel) (by decide +kernel) (L0.andThen isdd) (by unfold argsOk; kernel_rfl) ?_
  refine codeAny_builtin entry_dd_ga ?_
  rw [Around.under_plainId (by decide +kernel) _]
  unfold Builtin.«object.__getattribute__»
  refine wpAny_bind (wpAny_of_eq (a := (Value.ref x, [Value.str name tk])) rfl ?_)
  dsimp only
  refine wpAny_bind (wpAny_of_eq (a := name) rfl ?_)
  refine wpAny_bind (L0.at (wpAny_bind (L2.at ?_)))
  cases r with
  | value v => exact wpAny_pure hq
  | bind gg a =>
    dsimp only
    unfold Builtin.ObjectAttr.bindTo
    refine wpAny_bind (wpAny_holding (wpAny_mono hq (fun v s' hv => ?_) fun e s' he => he))
    exact wpAny_pure hv
  | missing =>
    dsimp only
    obtain ⟨hh, hm⟩ := hq
    rw [if_neg (show ¬ (Value.ref 58 == Value.type "module") = true by decide), if_neg (show ¬ (Value.ref 58 == Value.type "type") = true by decide)]
    obtain ⟨L4⟩ : Nonempty (PLift (Looks (model PG w) h (typeNameCut 100 (.ref 58)) "FreezableDefaultDict")) := ⟨⟨Looks.of_peek X (by kernel_rfl)⟩⟩
    have L4 := L4.down
    have L5 : Looks (model PG w) h (typeNameOfCut 100 (.ref x)) "FreezableDefaultDict" := by
      unfold typeNameOfCut shownTypeOf
      refine Looks.andThen (L0.andThen ?_) L4
      rw [if_neg (show ¬ (Value.ref 58 == Value.type "builtin_function_or_method") = true by decide)]
      exact Looks.now
    unfold Builtin.ObjectAttr.noSuchAttribute
    refine wpAny_bind (L5.at ?_)
    refine wpAny_raiseAttrError (by exact hh) (fun h' t' e hN => ?_) hn
    exact hm h' t' e hN

theorem getBy?_frozen {x dx : Addr} {es : List DictEntry} {n n' : Nat} {hs : Int} {tk' tk : Tok} {f : Addr} {Q : Option Value → Shared → Prop} (X : (hd.heap_39 w.params).In h)
    (hx : h.get? x = some (bookObj dx es n)) (hdx : h.get? dx = some (frzDict hs tk' f n')) (hq : Q (some (.ref f)) ⟨h, g, d, t, os⟩) :
    wpAny (model PG w) A (getAttrBy? (.ref x) (.str "_frozen" tk)) Q E ⟨h, g, d, t, os⟩ := by
  obtain ⟨f1, f2, f3, f4, f5⟩ := frz_facts X
  unfold getAttrBy?
  refine wpAny_bind (wpAny_attempt ?_)
  refine own_getBy X hx hdx (r := .value (.ref f)) (findObj_own f3 f4 f5 (by rfl)) ?_ (by decide +kernel)
  dsimp only
  exact wpAny_pure (wpAny_pure hq)

theorem getBy?_miss {x dx : Addr} {es : List DictEntry} {n : Nat} {tk : Tok} {Q : Option Value → Shared → Prop} (X : (hd.heap_39 w.params).In h) (hA : A.handled = none)
    (hx : h.get? x = some (bookObj dx es n)) (hdx : h.get? dx = some emptyDict) (hq : ∀ h' t', (∀ b o, h.get? b = some o → h'.get? b = some o) → Q none ⟨h', g, d, t', os⟩) :
    wpAny (model PG w) A (getAttrBy? (.ref x) (.str "_frozen" tk)) Q E ⟨h, g, d, t, os⟩ := by
  obtain ⟨f1, f2, f3, f4, f5⟩ := frz_facts X
  unfold getAttrBy?
  refine wpAny_bind (wpAny_attempt ?_)
  refine own_getBy X hx hdx (r := .missing) (findObj_miss f3 f4 (by decide +kernel) (by rfl)) ?_ (by decide +kernel)
  refine ⟨hA, fun h' t' e hN => ?_⟩
  obtain ⟨tt, uu, he⟩ := hN.there
  have hI : Looks (model PG w) h' (isInstance (.ref e) (.type "AttributeError")) true := by
    unfold isInstance
    exact ((Looks.ld he).andThen .now).andThen (Looks.of_pure sub_AttributeError)
  unfold getattributeRaised
  refine wpAny_bind (hI.at ?_)
  rw [if_pos rfl]
  unfold hookBehind
  rw [if_pos (show onTheHeap (.ref 58) = true from rfl)]
  refine wpAny_bind (wpAny_pure ?_)
  unfold hookOrError attributeErrorLeaves
  simp only [Bool.not_false, if_true]
  refine wpAny_bind (wpAny_throw ?_)
  refine wpAny_bind (hI.at ?_)
  rw [if_pos rfl]
  exact wpAny_pure (hq h' t' hN.keeps)


theorem frz_road {x dx : Addr} {es : List DictEntry} {n : Nat} (X : (hd.heap_39 w.params).In h) (hx : h.get? x = some (bookObj dx es n)) :
    Looks (model PG w) h (isInstance (.ref x) (.type "module")) false := by
  unfold isInstance
  exact ((Looks.ld hx).andThen .now).andThen (Looks.of_peek X (by kernel_rfl))

theorem call_getattr {x : Addr} {tk : Tok} {dv : Value} {dx : Addr} {es : List DictEntry} {n : Nat} {Q : Value → Shared → Prop} (X : (hd.heap_39 w.params).In h)
    (hx : h.get? x = some (bookObj dx es n))
    (hq : wpAny (model PG w) A.in1 (getAttrBy? (.ref x) (.str "_frozen" tk)) (fun r s' => Q (r.getD dv) s') E ⟨h, g, d, t, os⟩) :
    wpAny (model PG w) A (call (.builtin "getattr") [.ref x, .str "_frozen" tk, dv]) Q E ⟨h, g, d, t, os⟩ := by
  refine Calls.call_function_entry kind_getattr' plain_getattr' entry_getattr' (by unfold argsOk; kernel_rfl) ?_
  unfold Builtin.«getattr»
  refine wpAny_bind (wpAny_of_eq (a := [Value.ref x, .str "_frozen" tk, dv]) rfl ?_)
  dsimp only
  refine wpAny_bind (wpAny_of_eq (a := ()) rfl ?_)
  refine wpAny_bind (wpAny_of_eq (a := none) rfl ?_)
  dsimp only
  refine wpAny_bind (Looks.at (r := 0) (Looks.andThen (a := some ("_frozen" : Str)) (Looks.of_pure rfl) (Looks.andThen (frz_road X hx) (Looks.of_pure rfl))) ?_)
  rw [if_neg (by decide)]
  refine wpAny_bind (wpAny_mono hq (fun r s' hr => ?_) fun _ _ x => x)
  cases r with
  | some v => exact wpAny_pure ⟨v, rfl, hr⟩
  | none =>
    dsimp only
    rw [if_neg (by decide)]
    exact wpAny_pure ⟨dv, rfl, hr⟩

end
end Mine

namespace Mine
open PySem PySem.W PyProof.Rows PySem.Calls
set_option maxRecDepth 100000
set_option linter.unusedVariables false
section
variable {w : World} {A : Around} {E : Value → Shared → Prop} {s : Shared}

theorem typeCall_list_0 : checkTypeCall "list" ⟨[], []⟩ = pure () := by first | kernel_rfl | rfl
theorem newCall_list_0 : checkBuiltinCall "list.__new__" ⟨[.type "list"], []⟩ = pure () := by first | kernel_rfl | rfl
theorem args_list_init_0 (a : Value) : argsOk "list.__init__" ⟨[a], []⟩ := by unfold argsOk; kernel_rfl

theorem code_list_new0 {Q₁ : Value → Shared → Prop}
    (h : Q₁ (.ref s.heap.objs.size) { s with heap := s.heap.push { cls := .type "list", data := .seq #[] } }) :
    codeAny (model PG w) A (.call (.builtin "list.__new__") ⟨[.type "list"], []⟩) (wants Q₁ E) s := by
  refine codeAny_of_tree ?_
  show wpAny _ A.in1 (do checkBuiltinCall "list.__new__" ⟨[.type "list"], []⟩; again (.builtin "list.__new__" ⟨[.type "list"], []⟩)) _ _ s
  refine wpAny_bind (wpAny_of_eq newCall_list_0 (wpAny_pure ⟨plainId_quiet F.plain_list_new _, codeAny_builtin_stack F.entry_list_new rfl fun p st => ?_⟩))
  rw [Around.under_plainId F.plain_list_new _]
  have hsub := sub_list_self
  have hown := owner_list_new
  obtain ⟨hp, g, d, tk, os⟩ := s
  simp only [hown]
  wp_walk
  exact h

theorem call_list0 {Q : Value → Shared → Prop}
    (hQ : ∀ h' c', (∀ b o', s.heap.get? b = some o' → h'.get? b = some o') → h'.get? s.heap.objs.size = some { cls := .type "list", dict := none, data := .seq #[] c', slots := #[] } → Q (.ref s.heap.objs.size) { s with heap := h' }) :
    wpAny (model PG w) A (call (.type "list") []) Q E s := by
  refine callType_codes (Q₁ := fun obj s₁ => obj = .ref s.heap.objs.size ∧ s₁ = { s with heap := s.heap.push { cls := .type "list", data := .seq #[] } }) F.called_list typeCall_list_0 F.entry_list_init
    (code_list_new0 ⟨rfl, rfl⟩) fun obj s₁ h₁ => ?_
  obtain ⟨rfl, rfl⟩ := h₁
  have hS : (s.heap.push { cls := .type "list", data := .seq #[] }).get? s.heap.objs.size = some { cls := .type "list", data := .seq #[] } := Heap.get?_push_size _ rfl
  refine ⟨⟨_, hS, rfl⟩, args_list_init_0 _, ?_⟩
  show wpAny _ A.in1.in1 (do let old ← Builtin.List.listItems (.ref s.heap.objs.size); Builtin.List.listUpdate (.ref s.heap.objs.size) (fun _ => #[]); letGo old.toList.reverse; ret .none) _ _ _
  refine wpAny_bind ?_
  unfold Builtin.List.listItems
  refine wpAny_bind (wpAny_seqItems hS rfl (wpAny_pure ?_))
  show wpAny _ A.in1.in1 (updateSeq s.heap.objs.size (fun _ => #[]) >>= fun _ => letGo (#[] : Array Value).toList.reverse >>= fun _ => ret .none) _ _ _
  refine wpAny_bind (wpAny_updateSeq hS rfl ?_)
  have hS₂ := Heap.get?_update_self (Obj.mapSeq (fun _ => (#[] : Array Value))) hS rfl
  refine wpAny_bind (wpAny_letGo ?_)
  refine wpAny_pure ⟨rfl, ?_⟩
  refine hQ _ _ (fun b o' e => ?_) (by simpa [Obj.mapSeq] using hS₂)
  have hb : b ≠ s.heap.objs.size := fun e' => Nat.lt_irrefl _ (e' ▸ Heap.lt_size e)
  exact (Heap.get?_update_other _ _ (Ne.symm hb)).trans (Heap.get?_push_of_some _ e)
end

abbrev KV := Int × Tok × Addr
noncomputable def ent (x : KV) : DictEntry := ⟨hashInt x.1, .int x.1 x.2.1, .ref x.2.2⟩
noncomputable def ents (l : List KV) : List DictEntry := l.map ent
noncomputable def bk (l : List KV) (k : Int) : Option Addr := (l.find? fun x => x.1 == k).map (·.2.2)

theorem ents_keys (l : List KV) : IntKeys (ents l).toArray := by
  intro e he
  simp only [ents, List.mem_toArray, List.mem_map] at he
  obtain ⟨x, _, rfl⟩ := he
  exact ⟨x.1, x.2.1, rfl, rfl⟩

theorem ents_find (l : List KV) (k : Int) : (ents l).toArray.findIdx? (fun e => Value.isInt k e.key) = l.findIdx? (fun x => x.1 == k) := by
  rw [List.findIdx?_toArray, ents, List.findIdx?_map]
  rfl

theorem bk_find {l : List KV} {k : Int} {i : Nat} (h : l.findIdx? (fun x => x.1 == k) = some i) : ∃ x, l[i]? = some x ∧ bk l k = some x.2.2 := by
  induction l generalizing i with
  | nil => simp at h
  | cons y l ih =>
    rw [List.findIdx?_cons] at h
    unfold bk
    rw [List.find?_cons]
    split at h
    · rename_i hy
      cases h
      rw [hy]
      exact ⟨y, rfl, rfl⟩
    · rename_i hy
      cases hz : l.findIdx? (fun x => x.1 == k) with
      | none => rw [hz] at h; cases h
      | some j =>
        rw [hz] at h; cases h
        obtain ⟨x, hx, hb⟩ := ih hz
        refine ⟨x, by rw [List.getElem?_cons_succ]; exact hx, ?_⟩
        have : (y.1 == k) = false := by simpa using hy
        rw [this]
        exact hb

theorem bk_none {l : List KV} {k : Int} (h : l.findIdx? (fun x => x.1 == k) = none) : bk l k = none := by
  unfold bk
  rw [List.find?_eq_none.mpr fun x hx => by
    rw [List.findIdx?_eq_none_iff] at h
    simp [h x hx]]
  rfl

section
variable {w : World} {A : Around} {E : Value → Shared → Prop} {h : Heap} {g : Array GenState} {d : Drawn} {t : Nat} {os : OsState}

theorem bk_get {x dx : Addr} {l : List KV} {n : Nat} {k : Int} {tk : Tok} {Q : Option Value → Shared → Prop} (hx : h.get? x = some (bookObj dx (ents l) n))
    (hq : Q ((bk l k).map .ref) ⟨h, g, d, t + 1, os⟩) : wpAny (model PG w) A (dictGet x (.int k tk)) Q E ⟨h, g, d, t, os⟩ := by
  unfold dictGet
  refine wpAny_holding ?_
  refine wpAny_bind (wpAny_pyHash_int (wpAny_bind (wpAny_dictFind_int (o := bookObj dx (ents l) n) hx rfl (ents_keys l) ?_)))
  rw [ents_find]
  cases hi : l.findIdx? (fun x => x.1 == k) with
  | none => rw [bk_none hi] at hq; exact wpAny_pure hq
  | some i =>
    obtain ⟨y, hy, hb⟩ := bk_find hi
    rw [hb] at hq
    refine wpAny_bind (wpAny_dictEntries (o := bookObj dx (ents l) n) hx rfl (wpAny_pure ?_))
    have : (ents l).toArray[i]? = some (ent y) := by
      rw [List.getElem?_toArray, ents, List.getElem?_map, hy]; rfl
    rw [this]
    exact hq

theorem bk_put {x dx : Addr} {l : List KV} {n : Nat} {k : Int} {tk : Tok} {a : Addr} {Q : Value → Shared → Prop} (hx : h.get? x = some (bookObj dx (ents l) n)) (hb : bk l k = none) (hz : l.length ≤ 1000)
    (hq : ∀ h', h'.get? x = some (bookObj dx (ents (l ++ [(k, tk, a)])) (n + 1)) → Heap.SameBut x h h' → Q (.ref a) ⟨h', g, d, t + 1, os⟩) : wpAny (model PG w) A (dictSetDefault x (.int k tk) (.ref a)) Q E ⟨h, g, d, t, os⟩ := by
  unfold dictSetDefault
  refine wpAny_holding ?_
  refine wpAny_bind (wpAny_pyHash_int (wpAny_bind (wpAny_dictFind_int (o := bookObj dx (ents l) n) hx rfl (ents_keys l) ?_)))
  rw [ents_find]
  cases hi : l.findIdx? (fun x => x.1 == k) with
  | some i =>
    obtain ⟨y, hy, hb'⟩ := bk_find hi
    rw [hb] at hb'; cases hb'
  | none =>
    refine wpAny_bind (wpAny_rule (wpAny_bind (wpAny_updateDictKeys (o := bookObj dx (ents l) n) hx rfl (wpAny_pure (hq _ ?_ (Heap.SameBut.update ..))) ?_)))
    · have := Heap.get?_update_self (Obj.mapDictKeys fun es => es.push ⟨hashInt k, .int k tk, .ref a⟩) hx rfl
      rw [this]
      simp [Obj.mapDictKeys, ents, ent]
    · rw [sizeLine_eq]; simp [ents]; omega
end
end Mine

namespace Mine
open PySem PySem.W PyProof.Rows PySem.Calls
set_option maxRecDepth 100000
set_option linter.unusedVariables false
section
variable {w : World} {A : Around} {E : Value → Shared → Prop} {h : Heap} {g : Array GenState} {d : Drawn} {t : Nat} {os : OsState}
theorem entry_dd_miss : entryFor table "collections.defaultdict.__missing__" = some Builtin.«collections.defaultdict.__missing__» := entryFor_of_tree (by kernel_rfl)
theorem entry_setdefault : entryFor table "dict.setdefault" = some Builtin.«dict.setdefault» := entryFor_of_tree (by kernel_rfl)

structure Missed (x dx : Addr) (l : List KV) (n : Nat) (k : Int) (h : Heap) (a : Addr) (h' : Heap) : Prop where
  bk : ∃ tk, h'.get? x = some (bookObj dx (ents (l ++ [(k, tk, a)])) (n + 1))
  new : ∃ c, h'.get? a = some { cls := .type "list", dict := none, data := .seq #[] c, slots := #[] }
  none : h.get? a = none
  keep : ∀ b o, b ≠ x → h.get? b = some o → h'.get? b = some o

theorem setdefault_entry {x dx : Addr} {l : List KV} {n : Nat} {k : Int} {tk : Tok} {a : Addr} {R : Result → Shared → Prop} (X : (hd.heap_39 w.params).In h) (hx : h.get? x = some (bookObj dx (ents l) n)) (hb : bk l k = none) (hz : l.length ≤ 1000) (hx1 : 58 < x)
    (hq : ∀ h' t', h'.get? x = some (bookObj dx (ents (l ++ [(k, tk, a)])) (n + 1)) → Heap.SameBut x h h' → R (.ok (.ret (.ref a))) ⟨h', g, d, t', os⟩) :
    codeAny (model PG w) A (.builtin "dict.setdefault" ⟨[.ref x, .int k tk, .ref a], []⟩) R ⟨h, g, d, t, os⟩ := by
  obtain ⟨⟨oc, od, cd, sl, hC, e1, e2, e4⟩, made, base, self, top, isd, call, typ, hi, isdd, isod⟩ := cls_facts X
  have ta : Looks (model PG w) h (typeOf (.ref x)) (.ref 58) := (Looks.ld hx).andThen .now
  refine codeAny_builtin entry_setdefault ?_
  rw [Around.under_plainId (by decide +kernel) _]
  unfold Builtin.«dict.setdefault»
  have sr : Looks (model PG w) h (Builtin.Dict.keyAndDefault "setdefault" ⟨[.ref x, .int k tk, .ref a], []⟩) (x, .int k tk, some (.ref a)) := by
    unfold Builtin.Dict.keyAndDefault
    refine Looks.andThen (a := ()) ?_ ?_
    · unfold Builtin.Dict.notOrdered
      rw [if_pos (by decide)]
      refine ta.andThen ?_
      rw [if_pos (by decide)]
      exact (ta.andThen isod).andThen (Looks.of_pure rfl)
    · exact Looks.of_pure (by rfl)
  refine wpAny_bind (sr.at ?_)
  dsimp only
  rw [if_neg (show ¬ (x == sysModules) = true by
    simp only [beq_iff_eq]
    intro e; rw [e] at hx1; exact absurd hx1 (by decide))]
  refine wpAny_bind ?_
  exact bk_put hx hb hz fun h' h1 h2 => wpAny_pure (hq h' _ h1 h2)

theorem wpAny_callBorrowed {f : Value} {pos : List Value} {Q : Value → Shared → Prop} {s : Shared} (hc : wpAny (model PG w) A (call f pos) Q E s) : wpAny (model PG w) A (callBorrowed f pos) Q E s := fun Γ p hΓ => by
  have h1 := hc Γ p hΓ
  rw [Sem.wp_cmd_call] at h1
  have e : Sem.wp (model PG w) Γ (callBorrowed f pos) (fun a _ => Q a) (fun e _ => E e) p s = wpCode (model PG w) (Γ.enter (.call f ⟨pos, []⟩) none p) (fun r s' => match r with | .ok (.ret v) => Q v s' | .ok _ => False | .error e => E e s') p s := by
    show wpCode (model PG w) (Γ.enter (.call f ⟨pos, []⟩) none p) _ p s = _
    congr 1; funext r s'
    cases r with
    | error e => rfl
    | ok f => cases f <;> rfl
  rw [e]
  exact h1

theorem dd_miss {x dx : Addr} {l : List KV} {n : Nat} {k : Int} {tk : Tok} {R : Result → Shared → Prop} (X : (hd.heap_39 w.params).In h) (hx : h.get? x = some (bookObj dx (ents l) n)) (hb : bk l k = none) (hz : l.length ≤ 1000) (hx1 : 58 < x)
    (hq : ∀ h' a t', Missed x dx l n k h a h' → R (.ok (.ret (.ref a))) ⟨h', g, d, t', os⟩) :
    codeAny (model PG w) A (.builtin "collections.defaultdict.__missing__" ⟨[.ref x, .int k tk], []⟩) R ⟨h, g, d, t, os⟩ := by
  refine codeAny_builtin entry_dd_miss ?_
  rw [Around.under_plainId (by decide +kernel) _]
  unfold Builtin.«collections.defaultdict.__missing__»
  refine wpAny_bind (wpAny_of_eq (a := (Value.ref x, Value.int k tk)) rfl ?_)
  dsimp only
  have L1 : Looks (model PG w) h (Builtin.Collections_defaultdict.factory? (.ref x)) (some (.type "list")) := by
    unfold Builtin.Collections_defaultdict.factory?
    have sl0 : Looks (model PG w) h (slotAt x 0) (some (.type "list")) := (Looks.ld hx).andThen (Looks.of_pure rfl)
    exact sl0.andThen (Looks.of_pure (by rfl))
  refine wpAny_bind (L1.at ?_)
  dsimp only
  unfold callOutOfASlot
  refine wpAny_bind ?_
  refine wpAny_bind (wpAny_of_eq (a := true) rfl ?_)
  rw [if_pos rfl]
  refine wpAny_callBorrowed (call_list0 fun h1 c k1 hS => ?_)
  have hx2 := k1 _ _ hx
  have X2 := X.keeps k1
  have hn : h.get? h.objs.size = none := Heap.get?_none_of_le (Nat.le_refl _)
  have hne : x ≠ h.objs.size := fun e => by rw [e, hn] at hx; cases hx
  refine wpAny_pure ⟨Code.quiet_builtin _ (by decide +kernel), setdefault_entry X2 hx2 hb hz hx1 fun h' t' h1' sb => ?_⟩
  exact hq h' _ t' ⟨⟨tk, h1'⟩, ⟨c, (sb.2 _ (Ne.symm hne)).trans hS⟩, hn, fun b o hb e => (sb.2 b hb).trans (k1 _ _ e)⟩

theorem dm_kind : builtinKind "collections.defaultdict.__missing__" = some .method := by kernel_rfl
theorem dm_check (x : Addr) (k : Int) (tk : Tok) : (match Manifest.signature? "collections.defaultdict.__missing__" with
    | some sig => Bind.checkArgs "collections.defaultdict.__missing__" { sig with full := "FreezableDefaultDict.__missing__" } ⟨[.ref x, .int k tk], []⟩
    | none => pure ()) = pure () := by kernel_rfl

theorem cls58 (X : (hd.heap_39 w.params).In h) : ∃ cd, Looks (model PG w) h (classData 58) cd ∧ cd.qualname.toString = "FreezableDefaultDict" := by
  have hd0 : PySem.Challenge.rw_in0189_01.foot = PySem.Challenge.rw_in0189_01.foot := rfl
  revert X hd0
  k_fill
  intro X _
  refine' ⟨_, looks_clsIn X ?e, ?f⟩
  case e => k_is
  rfl

theorem call_bound {x dx m : Addr} {l : List KV} {n : Nat} {k : Int} {tk : Tok} {Q : Value → Shared → Prop} (X : (hd.heap_39 w.params).In h) (hx : h.get? x = some (bookObj dx (ents l) n)) (hb : bk l k = none) (hz : l.length ≤ 1000) (hx1 : 58 < x)
    (hm : h.get? m = some (boundMiss x))
    (hq : ∀ h' a t', Missed x dx l n k h a h' → Q (.ref a) ⟨h', g, d, t', os⟩) :
    wpAny (model PG w) A (call (.ref m) [.int k tk]) Q E ⟨h, g, d, t, os⟩ := by
  refine wpAny_call (codeAny_of_tree ?_)
  show wpAny _ _ (callAny (.ref m) _) _ _ _
  unfold callAny
  refine wpAny_bind (wpAny_load hm ?_)
  dsimp only
  rw [if_pos (by decide)]
  refine wpAny_bind ?_
  show wpAny _ _ (checkBoundCall "collections.defaultdict.__missing__" ⟨[.ref x, .int k tk], []⟩) _ _ _
  have L1 : Looks (model PG w) h (checkBoundCall "collections.defaultdict.__missing__" ⟨[.ref x, .int k tk], []⟩) () := by
    have hc := dm_check x k tk
    obtain ⟨cd, Lc, hcd⟩ := cls58 X
    have ta : Looks (model PG w) h (typeOf (.ref x)) (.ref 58) := (Looks.ld hx).andThen .now
    have L2 : Looks (model PG w) h (isInstance (.ref x) (.type "module")) false := frz_road X hx
    have L3 : Looks (model PG w) h (isType (.ref x)) false := (Looks.ld hx).andThen .now
    have L4 : Looks (model PG w) h (typeOf (.ref 58)) (.type "type") := Looks.of_peek X (by kernel_rfl)
    unfold checkBoundCall
    cases hS : Manifest.signature? "collections.defaultdict.__missing__" with
    | none => exact .now
    | some sig =>
      rw [hS] at hc
      rw [dm_kind]
      dsimp only at hc ⊢
      rw [if_neg (by decide)]
      refine L2.andThen ?_
      rw [if_neg (by decide +kernel)]
      refine L3.andThen ?_
      rw [if_neg (by decide)]
      refine ta.andThen ?_
      dsimp only
      refine Lc.andThen ?_
      refine L4.andThen ?_
      rw [if_pos (by decide), hcd]
      exact Looks.of_pure hc
  refine L1.at ?_
  refine wpAny_pure ⟨Code.quiet_builtin _ (by decide +kernel), ?_⟩
  refine dd_miss X hx hb hz hx1 fun h' a t' hM => ?_
  exact hq h' a t' hM
end
end Mine

namespace Mine
open PySem PySem.W PyProof.Rows PySem.Calls
set_option maxRecDepth 100000
set_option linter.unusedVariables false

section
variable {prog : Program} {w : World} {A : Around} {c : Code} {E : Value → Shared → Prop} {s : Shared} {env : Env}
theorem at_CallN {func : Expr} {args : List Expr} {pos : Pos} {Q : Value → Shared → Prop}
    (h : wpAny (model prog w) A (eval func env) (fun fv s₁ => wpA (model prog w) A c (callWith pos fv [] (backTo pos (starEach args env)) []) Q E s₁) E s)
    (he : eval (.Call func args [] pos) env = (do callWith pos (← eval func env) [] (backTo pos (starEach args env)) []) := by rfl) : wpA (model prog w) A c (eval (.Call func args [] pos) env) Q E s := by
  rw [he]
  exact _root_.PySem.wpAt_bind (_root_.PySem.wpAt_of_wpAny h)
theorem spliced1 {x1 : Sem Value} {Q : List Value → Shared → Prop} (h : wpAny (model prog w) A x1 (fun v1 s₁ => Q [v1] s₁) E s) : wpAny (model prog w) A (spliced [(false, x1)]) Q E s := by
  unfold spliced
  refine wpAny_bind (wpAny_mono h (fun v1 s₁ h₁ => ?_) fun _ _ x => x)
  refine wpAny_bind (wpAny_pure ?_)
  refine wpAny_bind (wpAny_holding ?_)
  unfold spliced
  exact wpAny_pure (wpAny_pure h₁)
end
local macro_rules | `(tactic| walk_at "subscriptTail") => `(tactic| (k_here; (with_unfolding_all refine' my_item ?k1 ?k2 ?_ ?k4; (case k1 => exact News.get (by assumption) (by k_mem)); (case k4 => with_unfolding_all rfl); (case k2 => omega); k_whole)))
local macro_rules | `(tactic| walk_at "call builtin:len") => `(tactic| (k_here; (with_unfolding_all refine' my_len ?k1 ?k2 ?_; (case k1 => exact News.get (by assumption) (by k_mem)); (case k2 => omega); k_whole)))
theorem missing_spec {w : World} {A : Around} {s : Shared} {H : Heap} {Q : Value → Shared → Prop} (G : Gnd w H) (KH : Kp [] H s.heap) (hA : Arnd A 3)
    {x dx : Addr} {l : List KV} {n : Nat} {k : Int} {tk : Tok} (hx : s.heap.get? x = some (bookObj dx (ents l) n)) (hb : bk l k = none) (hz : l.length ≤ 1000) (hx1 : 58 < x) (hdx : s.heap.get? dx = some emptyDict)
    (ret : ∀ h' t' a, Missed x dx l n k s.heap a h' → Q (.ref a) { s with heap := h', toks := t' }) :
    wpAny (model PG w) A (call (.ref 48) [.ref x, .int k tk]) Q (fun _ _ => False) s := by
  obtain ⟨p, loose, mean, mg, mb, T0⟩ := G.T
  have X0 := G.X
  have hd0 : PySem.Challenge.rw_in0189_01.foot = PySem.Challenge.rw_in0189_01.foot := rfl
  revert X0 hd0
  k_fill
  intro X0 _
  refine' enterAt (binds := [("self", .ref x), ("key", .int k tk)]) [] G.X KH T0.nolimit ?hN ?hroom ?ho ?hcd ?hbind ?hloc ?h ?hcell ?hco ?hgen ?hk
  case ho => k_is
  case hN => intro p hp; cases hp
  case hroom => have := hA.dep; omega
  case hcd => k_is
  case hbind => exact BindsTo.of_eq rfl
  case hloc => exact locs rfl
  case hcell => decide
  case hco => exact rfl
  case hgen => exact rfl
  case hk => exact rfl
  intro g L' h₁ hg Kg F N hlt
  have X := X0.keeps fun b o e => Kg b o (by simp) e
  have T := T0.keeps fun b o e => Kg b o (by simp) e
  clear X0 T0
  try k_fold
  refine ks_wpAt_execs_cons (ks_wpAt_Return_some (at_Call (at_CallN ?_)))
  refine wpAny_mono (Q := fun v s' => v = .builtin "getattr" ∧ s' = ⟨h₁, s.gens, s.drawn, s.toks + 2, s.os⟩) (E := fun _ _ => False) ?_ (fun v s' hv => ?_) fun _ _ z => z.elim
  · (repeat' (first | (k_unfold; (try dsimp only)) | ((with_reducible show wpAny _ _ _ _ _ _); (fail_if_success (with_reducible show wpAny _ _ (exec (Stmt.While _ _ _ _) _) _ _ _)); (fail_if_success (with_reducible show wpAny _ _ (exec (Stmt.For _ _ _ _ _) _) _ _ _)); (first | walk1 | (dsimp only; walk1)); (try dsimp only)) | ((with_reducible show (Frag.In _ _ ∧ _)); walk1; (try dsimp only)) | ((with_reducible show ite _ _ _); walk1; (try dsimp only))))
    exact ⟨rfl, rfl⟩
  obtain ⟨rfl, rfl⟩ := hv
  refine at_callWith3 (at_spliced3 ?_)
  simp only [Bool.false_eq_true, if_false]
  (repeat' (first | (k_unfold; (try dsimp only)) | ((with_reducible show wpAny _ _ _ _ _ _); (fail_if_success (with_reducible show wpAny _ _ (exec (Stmt.While _ _ _ _) _) _ _ _)); (fail_if_success (with_reducible show wpAny _ _ (exec (Stmt.For _ _ _ _ _) _) _ _ _)); (first | walk1 | (dsimp only; walk1)); (try dsimp only)) | ((with_reducible show (Frag.In _ _ ∧ _)); walk1; (try dsimp only)) | ((with_reducible show ite _ _ _); walk1; (try dsimp only))))
  refine at_Attribute ?_
  have e0 : ∀ b o, g.get? b = some o ↔ s.heap.get? b = some o := fun b o => (hg b o).trans ⟨fun e => e.2, fun e => ⟨by simp, e⟩⟩
  have hxg : g.get? x = some (bookObj dx (ents l) n) := (e0 _ _).mpr hx
  have hdg : g.get? dx = some emptyDict := (e0 _ _).mpr hdx
  have hxd : x ≠ dx := fun e => by rw [e, hdx] at hx; cases hx
  refine ks_node F X N T (by k_is) (by rfl) (by rfl) (inst_book (F.keep _ _ hxg) (F.keep _ _ hdg)) (by k_is) (by rfl) (by first | rfl | decide +kernel) (by k_is) (by k_is) (by k_is) (by k_is) (by decide) (by rfl) (by rfl) (by rfl) (by rfl) (by decide +kernel) (by first | boot_by_name | rfl | kernel_rfl) ?_
  intro so h2 F2 N2 l2
  have X2 := X.keeps F2.keep
  have hso : h2.get? so = some (superObj x) := (N2 (so, superObj x) (by simp)).1
  have hx2 := F2.keep _ _ hxg
  have hd2 := F2.keep _ _ hdg
  have hne : x ≠ 58 := Nat.ne_of_gt hx1
  refine getattr_super X2 hso hx2 hne ?_
  have F3 := F2.push (o := boundMiss x)
  have hm3 : (h2.push (boundMiss x)).get? h2.objs.size = some (boundMiss x) := Heap.get?_push_size _ rfl
  generalize h2.push (boundMiss x) = h3 at F3 hm3 ⊢
  generalize h2.objs.size = m at hm3 ⊢
  refine call_getattr (X.keeps F3.keep) (F3.keep _ _ hxg) ?_
  refine getBy?_miss (X.keeps F3.keep) hA.hh (F3.keep _ _ hxg) (F3.keep _ _ hdg) fun h4 t4 k4 => ?_
  have F4 := F3.keeps k4
  have hm4 := k4 _ _ hm3
  show wpAny _ _ (callWith _ (.ref m) _ _ _) _ _ _
  refine callWith_of (P := fun h => h.get? m = some (boundMiss x)) rfl (fun h e => ⟨.machine, .inr (.inl rfl), (Looks.ld e).andThen .now⟩) (evalArgs_plain ?_)
  clear F F2 F3 N N2
  have N4 : News g L' h4 [] := fun p hp => by cases hp
  refine spliced1 ?_
  simp only [Bool.false_eq_true, if_false]
  (repeat' (first | (k_unfold; (try dsimp only)) | ((with_reducible show wpAny _ _ _ _ _ _); (fail_if_success (with_reducible show wpAny _ _ (exec (Stmt.While _ _ _ _) _) _ _ _)); (fail_if_success (with_reducible show wpAny _ _ (exec (Stmt.For _ _ _ _ _) _) _ _ _)); (first | walk1 | (dsimp only; walk1)); (try dsimp only)) | ((with_reducible show (Frag.In _ _ ∧ _)); walk1; (try dsimp only)) | ((with_reducible show ite _ _ _); walk1; (try dsimp only))))
  refine ⟨hm4, ?_⟩
  refine call_bound (X.keeps F4.keep) (F4.keep _ _ hxg) hb hz hx1 hm4 fun h5 a t5 M => ?_
  refine ret h5 t5 a ⟨M.bk, M.new, ?_, fun b o hb e => M.keep b o hb (F4.keep _ _ ((e0 _ _).mpr e))⟩
  cases z : s.heap.get? a with
  | none => rfl
  | some o => have := F4.keep _ _ ((e0 _ _).mpr z); rw [M.none] at this; cases this
end Mine

namespace Mine
open PySem PySem.W PyProof.Rows PySem.Calls PySem.Builtin PySem.Builtin.ObjectAttr
set_option maxRecDepth 100000
set_option linter.unusedVariables false
theorem refuse_book (self : Value) : refuseLoop self "__setattr__" [.ref 58, .type "collections.defaultdict", .type "dict", .type "object"] = pure () := by
  rw [refuseLoop_ref]
  kernel_rfl

theorem taker_book {w : World} {h : Heap} (X : (hd.heap_39 w.params).In h) : takerIn (hd.heap_39 w.params) 58 "_frozen" = some none ∧ findIn (hd.heap_39 w.params) (.ref 58) "__setattr__" = some (some (.builtin "object.__setattr__")) ∧ (clsIn (hd.heap_39 w.params) 58).any (·.hasDict) = true := by
  refine ⟨?_, ?_, ?_⟩
  · kernel_rfl
  · kernel_rfl
  · kernel_rfl

section
variable {w : World} {A : Around} {E : Value → Shared → Prop} {s : Shared}

theorem set_book {h₀ : Heap} {L : Addr} {m : Str → Option Value} {pre post : List (Addr × Obj)} {x dx : Addr} {es : List DictEntry} {n n0 : Nat} {v : Value} {Q : Unit → Shared → Prop} (X : (hd.heap_39 w.params).In s.heap)
    (F : Fr h₀ L s.heap m) (N : News h₀ L s.heap (pre ++ (dx, dictOf [] n0) :: post)) (hx : s.heap.get? x = some (bookObj dx es n)) (h1 : ∀ p ∈ pre, p.1 ≠ dx) (h2 : ∀ p ∈ post, p.1 ≠ dx)
    (h : ∀ h' hs tk, Fr h₀ L h' m → News h₀ L h' (pre ++ (dx, dictOf [⟨hs, .str "_frozen" tk, v⟩] (n0 + 1)) :: post) → Q () { s with heap := h', toks := s.toks + 2 }) :
    wpAny (model PG w) A (setAttr (.ref x) "_frozen" v) Q E s := by
  obtain ⟨hp, g, d, t, os⟩ := s
  dsimp only at X F N hx h
  obtain ⟨ht, hs, hh⟩ := taker_book X
  have D := (N (dx, dictOf [] n0) (by simp)).1
  have I : InstAt hp x (bookObj dx es n) 58 (some (dictOf [] n0)) := inst_book hx D
  refine set_plain (s := ⟨hp, g, d, t, os⟩) X I hs ?_
  have SF := PySem.F.store_object
  obtain ⟨⟨oc, od, cd, sl, hC, e1, e2, e4⟩, made, base, self, top, isd, call, typ, hi, isdd, isod⟩ := cls_facts X
  have ty : Looks (model PG w) hp (typeOf (.ref x)) (.ref 58) := I.type
  have sub : Looks (model PG w) hp (isInstance (.ref x) (.type "object")) true := ty.andThen top
  refine codeAny_call_builtin SF.slot.plain SF.entry (@check_slot (model PG w) _ _ ⟨hp, g, d, t + 1, os⟩ "object.__setattr__" "object" "__setattr__" (.ref x) [.str "_frozen" t, v] [] _ SF.kind SF.split sub (SF.args (.ref x) (.str "_frozen" t) v) ?_)
  obtain ⟨attr, ha, hr⟩ := Option.bind_eq_some_iff.mp ht
  have hm : Looks (model PG w) hp (mroOf (.ref 58)) [Value.ref 58, Value.type "collections.defaultdict", Value.type "dict", Value.type "object"] := Looks.of_peek X (by kernel_rfl)
  have L3 : Looks (model PG w) hp (storeTaker? attr) none := by
    cases attr with
    | none => exact .now
    | some a =>
      obtain ⟨b, hb, hbb⟩ := Option.map_eq_some_iff.mp hr
      refine (looks_takesIn X hb).andThen ?_
      cases b
      · exact .now
      · cases hbb
  rw [osa_eq, refuse_eq]
  refine wpAny_bind (wpAny_bind (ty.at (wpAny_bind (hm.at ?_))))
  rw [refuse_book]
  refine wpAny_pure (wpAny_bind (ty.at (wpAny_bind ((looks_findIn X ha).at (wpAny_bind (L3.at ?_))))))
  dsimp only
  obtain ⟨cd, hc, hd'⟩ := any_some hh
  obtain ⟨U1, U2⟩ := news_upd (f := Obj.putName "_frozen" (PyData.keyHash w.params "_frozen") (.str "_frozen" (t + 1)) v) F N h1 h2 (o' := dictOf [⟨PyData.keyHash w.params "_frozen", .str "_frozen" (t + 1), v⟩] (n0 + 1)) (by rw [putName_dict]; rfl) rfl
  have D' := (U2 (dx, dictOf [⟨PyData.keyHash w.params "_frozen", .str "_frozen" (t + 1), v⟩] (n0 + 1)) (by simp)).1
  refine wpAny_bind (wpAny_pure (wpAny_bind (wpAny_bind (wpAny_loadPart hx (wpAny_bind ((looks_clsIn X hc).at ?_))))))
  rw [hd']
  refine wpAny_pure (a := some dx) (wpAny_bind (wpAny_pure (wpAny_bind ?_)))
  unfold nsSet
  refine wpAny_bind (wpAny_bind (wpAny_askSetting (wpAny_pure (wpAny_bind (wpAny_mkText (wpAny_bind (wpAny_loadPart D ?_)))))))
  dsimp only
  refine wpAny_updatePart D ?_
  refine wpAny_bind (wpAny_lookBehind D' rfl ?_)
  exact wpAny_pure (h _ _ _ U1 U2)
end
end Mine

namespace Mine
open PySem PySem.W PyProof.Rows PySem.Calls PySem.Builtin PySem.Builtin.Getset_descriptor
set_option maxRecDepth 100000
set_option linter.unusedVariables false
theorem df_type : typeOf (.builtin "collections.defaultdict.default_factory") = pure (.type "member_descriptor") := by show builtinType _ = _; rw [builtinType_eq_fast]; kernel_rfl
theorem df_entry : entryFor table "collections.defaultdict.default_factory" = some Builtin.«collections.defaultdict.default_factory» := entryFor_of_tree (by kernel_rfl)
theorem args_mb_get (a b c : Value) : argsOk "member_descriptor.__get__" ⟨[a, b, c], []⟩ := by unfold argsOk; kernel_rfl

theorem df_find {w : World} {h : Heap} (X : (hd.heap_39 w.params).In h) (od : Obj) : findObj (hd.heap_39 w.params) 58 (some od) "default_factory" = some (.bind (.builtin "member_descriptor.__get__") (.builtin "collections.defaultdict.default_factory")) ∧
    findIn (hd.heap_39 w.params) (.ref 58) "default_factory" = some (some (.builtin "collections.defaultdict.default_factory")) := by
  refine ⟨?_, ?_⟩
  · kernel_rfl
  · kernel_rfl

section
variable {w : World} {A : Around} {E : Value → Shared → Prop} {h : Heap} {g : Array GenState} {d : Drawn} {t : Nat} {os : OsState}

theorem mb_get_df {x dx : Addr} {es : List DictEntry} {n : Nat} {Q : Value → Shared → Prop} (X : (hd.heap_39 w.params).In h) (hx : h.get? x = some (bookObj dx es n))
    (hq : Q (.type "list") ⟨h, g, d, t, os⟩) :
    wpAny (model PG w) A (call (.builtin "member_descriptor.__get__") [.builtin "collections.defaultdict.default_factory", .ref x, .ref 58]) Q E ⟨h, g, d, t, os⟩ := by
  obtain ⟨⟨oc, od, cd, sl, hC, e1, e2, e4⟩, made, base, self, top, isd, call, typ, hi, isdd, isod⟩ := cls_facts X
  have ta : Looks (model PG w) h (typeOf (.ref x)) (.ref 58) := (Looks.ld hx).andThen .now
  have isi : Looks (model PG w) h (isInstance (.ref x) (.type "collections.defaultdict")) true := ta.andThen isdd
  have sl0 : Looks (model PG w) h (slotAt x 0) (some (.type "list")) := (Looks.ld hx).andThen (Looks.of_pure rfl)
  refine wpAny_call (codeAny_call_builtin KF.slot_mem.plain KF.entry_mem (KF.slot_mem.check _ _ _ _ _ _ _ _ df_type (args_mb_get _ _ _) ?_))
  unfold Builtin.«member_descriptor.__get__» descrGet
  rw [dga_obj]
  refine wpAny_bind (wpAny_pure ?_)
  unfold descrGetter
  dsimp only
  have eo : descrNameAndClass (.builtin "collections.defaultdict.default_factory") = pure (("default_factory" : Str), Value.type "collections.defaultdict") := by
    unfold descrNameAndClass
    kernel_rfl
  have L1 : Looks (model PG w) h (descrCheckInstance (.builtin "collections.defaultdict.default_factory") (.ref x)) () := by
    unfold descrCheckInstance
    rw [eo]
    exact Looks.andThen .now (isi.andThen .now)
  refine wpAny_bind (L1.at ?_)
  refine wpAny_pure ⟨Code.quiet_builtin _ (by decide +kernel), codeAny_builtin df_entry ?_⟩
  unfold Builtin.«collections.defaultdict.default_factory»
  have L2 : Looks (model PG w) h (Builtin.Collections_defaultdict.factory? (.ref x)) (some (.type "list")) := by
    unfold Builtin.Collections_defaultdict.factory?
    exact sl0.andThen (Looks.of_pure (by rfl))
  dsimp only
  refine wpAny_bind (L2.at ?_)
  exact wpAny_pure hq

theorem noAttr_nil (n : Str) : lookIn n emptyDict = some none := rfl

theorem book_getMethod_usual {x dx : Addr} {es : List DictEntry} {n : Nat} {pl : Sem Bool} {Q : Value × List Value → Shared → Prop} (X : (hd.heap_39 w.params).In h)
    (hx : h.get? x = some (bookObj dx es n)) {od : Obj} (hdx : h.get? dx = some od)
    (hq : Q (.type "list", []) ⟨h, g, d, t + 1, os⟩) :
    wpAny (model PG w) A (getMethod (.ref x) "default_factory" pl) Q E ⟨h, g, d, t, os⟩ := by
  obtain ⟨f1, f2, f3, f4, f5⟩ := frz_facts X
  obtain ⟨b1, b2⟩ := df_find X od
  have I := inst_book hx hdx
  have L0 := I.type (M := model PG w)
  have S1 : Looks (model PG w) h (specialOf (.ref x) "__getattribute__") (some (.builtin "collections.defaultdict.__getattribute__")) := by
    unfold specialOf
    exact L0.andThen (looks_findIn X f1)
  have S2 : Looks (model PG w) h (specialOf (.ref x) "__getattr__") none := by
    unfold specialOf
    exact L0.andThen (looks_findIn X f2)
  have S3 : Looks (model PG w) h (specialOf (.ref x) "default_factory") (some (.builtin "collections.defaultdict.default_factory")) := by
    unfold specialOf
    exact L0.andThen (looks_findIn X b2)
  unfold getMethod
  dsimp only
  refine wpAny_bind (S1.at ?_)
  dsimp only
  rw [if_neg (by decide +kernel)]
  refine wpAny_bind (S2.at ?_)
  rw [if_neg (by decide)]
  refine wpAny_bind (S3.at ?_)
  dsimp only
  rw [df_type]
  refine wpAny_bind (wpAny_pure ?_)
  rw [if_pos (by decide)]
  refine wpAny_bind ?_
  unfold getAttr
  refine wpAny_bind (wpAny_mkText ?_)
  refine own_getBy X hx hdx b1 ?_ (by decide +kernel)
  refine mb_get_df X hx ?_
  exact wpAny_pure (wpAny_pure hq)
end
end Mine

namespace Mine
open PySem PySem.W PyProof.Rows PySem.Calls
set_option maxRecDepth 100000
set_option linter.unusedVariables false
local macro_rules | `(tactic| walk_at "subscriptTail") => `(tactic| (k_here; (with_unfolding_all refine' my_item ?k1 ?k2 ?_ ?k4; (case k1 => exact News.get (by assumption) (by k_mem)); (case k4 => with_unfolding_all rfl); (case k2 => omega); k_whole)))
local macro_rules | `(tactic| walk_at "call builtin:len") => `(tactic| (k_here; (with_unfolding_all refine' my_len ?k1 ?k2 ?_; (case k1 => exact News.get (by assumption) (by k_mem)); (case k2 => omega); k_whole)))
def LamSpec (w : World) (H : Heap) (x f : Addr) (W : List (Addr × Obj)) : Prop :=
  ∀ {A : Around} {s : Shared} {dx : Addr} {es : List DictEntry} {n : Nat} {Q : Value → Shared → Prop} {k : Int} {tk : Tok}, Kp [] H s.heap → Arnd A 2 → (∀ p ∈ W, s.heap.get? p.1 = some p.2) → s.heap.get? x = some (bookObj dx es n) → (∃ od, s.heap.get? dx = some od) →
    (∀ h' a c t', (∀ b o, s.heap.get? b = some o → h'.get? b = some o) → h'.get? a = some { cls := .type "list", dict := none, data := .seq #[] c, slots := #[] } → s.heap.get? a = none → Q (.ref a) { s with heap := h', toks := t' }) →
    wpAny (model PG w) A (call (.ref f) [.int k tk]) Q (fun _ _ => False) s

def FrzAt (w : World) (H : Heap) (x dx : Addr) (W : List (Addr × Obj)) : Prop :=
  ∃ hs tk f n lo fd W', W = (dx, frzDict hs tk f n) :: W' ∧ (f, lo) ∈ W' ∧ lo.data = .func fd ∧ LamSpec w H x f W' ∧ (∀ p ∈ W, ∀ a l c, p.2 ≠ ritObj a l c) ∧ ∃ ps, ((50 : Addr), tabObj ps) ∈ W'

theorem freeze_spec {w : World} {A : Around} {s : Shared} {H : Heap} {Q : Value → Shared → Prop} (G : Gnd w H) (KH : Kp [] H s.heap) (hA : Arnd A 3) (C50 : CodeHd H 54 50)
    {x dx : Addr} {l : List KV} {n : Nat} (hx : s.heap.get? x = some (bookObj dx (ents l) n)) (hx1 : 58 < x) (hdx : s.heap.get? dx = some emptyDict) (hdH : H.get? dx = none) (h50 : s.heap.get? 50 = some (tabObj #[])) (h50H : H.get? 50 = none)
    (ret : ∀ h' tk W, FrzAt w H x dx W → (∀ p ∈ W, h'.get? p.1 = some p.2) → (∀ p ∈ W, p.1 = dx ∨ p.1 = 50 ∨ s.heap.get? p.1 = none) → Kp [50, dx] s.heap h' → Q .none { s with heap := h', toks := tk }) :
    wpAny (model PG w) A (call (.ref 55) [.ref x]) Q (fun _ _ => False) s := by
  obtain ⟨p, loose, mean, mg, mb, T0⟩ := G.T
  have X0 := G.X
  have hd0 : PySem.Challenge.rw_in0189_01.foot = PySem.Challenge.rw_in0189_01.foot := rfl
  revert X0 hd0
  k_fill
  intro X0 _
  refine' enterC (binds := [("self", .ref x)]) [(50, tabObj #[]), (dx, dictOf [] 0)] G.X KH T0.nolimit ?hN ?hroom ?ho ?hcd ?hbind ?hkind ?hnd ?h ?hco ?hgen ?hk
  case ho => k_is
  case hN => intro p hp; simp only [List.mem_cons, List.not_mem_nil, or_false] at hp; rcases hp with rfl | rfl; exact ⟨h50, h50H⟩; exact ⟨hdx, hdH⟩
  case hroom => have := hA.dep; omega
  case hcd => k_is
  case hbind => exact BindsTo.of_eq rfl
  case hkind => exact rfl
  case hnd => decide +kernel
  case hco => exact rfl
  case hgen => exact rfl
  case hk => exact rfl
  intro g L' h₁ tk₁ cells hg Kg F N Y hlt
  k_cells Y
  try simp only [List.cons_append, List.nil_append] at N
  try dsimp only
  have X := X0.keeps fun b o e => Kg b o (by simp) e
  have T := T0.keeps fun b o e => Kg b o (by simp) e
  clear X0 T0
  try k_fold
  have Cg : CodeHd g 54 50 := C50.keeps fun b o e => Kg b o (by simp) e
  have hxd : x ≠ dx := fun e => by rw [e, hdx] at hx; cases hx
  have hx50 : x ≠ 50 := fun e => by rw [e] at hx1; exact absurd hx1 (by decide)
  have hxg : g.get? x = some (bookObj dx (ents l) n) := (hg _ _).mpr ⟨by simp [hxd, hx50], hx⟩
  (repeat' (first | (k_unfold; (try dsimp only)) | ((with_reducible show wpAny _ _ _ _ _ _); (fail_if_success (with_reducible show wpAny _ _ (exec (Stmt.While _ _ _ _) _) _ _ _)); (fail_if_success (with_reducible show wpAny _ _ (exec (Stmt.For _ _ _ _ _) _) _ _ _)); (first | walk1 | (dsimp only; walk1)); (try dsimp only)) | ((with_reducible show (Frag.In _ _ ∧ _)); walk1; (try dsimp only)) | ((with_reducible show ite _ _ _); walk1; (try dsimp only))))
  refine kla_eval rfl ?_
  have h50L : (50 : Nat) < L' := hlt (50, tabObj #[]) (by simp)
  have hdxL : dx < L' := hlt (dx, dictOf [] 0) (by simp)
  have hd50 : dx ≠ 50 := fun e => by rw [e, h50] at hdx; cases hdx
  refine' kla_nest (c := 54) (P := 50) (ps := #[]) F N T Cg ?cd (.tail (Nat.ne_of_gt (Nat.lt_succ_of_lt h50L)) (.head (by simp [hd50]))) ?t ?n ?cl ?_
  case cd => exact rfl
  case t => kn_triples
  case n => kn_among
  case cl => exact rfl
  intro f' c' oc' vs' t' ct' h' tk' F' N' d1' d2' l1 l2
  dsimp only at N'
  clear F N
  (repeat' (first | (k_unfold; (try dsimp only)) | ((with_reducible show wpAny _ _ _ _ _ _); (fail_if_success (with_reducible show wpAny _ _ (exec (Stmt.While _ _ _ _) _) _ _ _)); (fail_if_success (with_reducible show wpAny _ _ (exec (Stmt.For _ _ _ _ _) _) _ _ _)); (first | walk1 | (dsimp only; walk1)); (try dsimp only)) | ((with_reducible show (Frag.In _ _ ∧ _)); walk1; (try dsimp only)) | ((with_reducible show ite _ _ _); walk1; (try dsimp only))))
  rename Fr _ _ _ _ => F
  rename News _ _ _ _ => N
  have hxc := F.keep _ _ hxg
  have hXh := X.keeps F.keep
  refine set_book (pre := [_, _, _, _]) (post := []) (n0 := 0) hXh F N hxc ?_ (by simp) fun h3 hs3 tk3 F3 N3 => ?_
  · have q1 : (50 : Nat) < c' := l1 (50, tabObj #[]) (by simp)
    have q2 : dx < c' := l1 (dx, dictOf [] 0) (by simp)
    intro p hp
    simp only [List.mem_cons, List.not_mem_nil, or_false] at hp
    rcases hp with rfl | rfl | rfl | rfl
    · exact Nat.ne_of_gt (Nat.lt_trans q2 l2)
    · exact Nat.ne_of_gt q2
    · exact Nat.ne_of_gt (Nat.lt_succ_of_lt hdxL)
    · exact hd50.symm
  simp only [List.cons_append, List.nil_append] at N3
  clear F N
  rename_i oc dcell
  have dcell : oc.data = .cell (some (.ref x)) := dcell
  (repeat' (first | (k_unfold; (try dsimp only)) | ((with_reducible show wpAny _ _ _ _ _ _); (fail_if_success (with_reducible show wpAny _ _ (exec (Stmt.While _ _ _ _) _) _ _ _)); (fail_if_success (with_reducible show wpAny _ _ (exec (Stmt.For _ _ _ _ _) _) _ _ _)); (first | walk1 | (dsimp only; walk1)); (try dsimp only)) | ((with_reducible show (Frag.In _ _ ∧ _)); walk1; (try dsimp only)) | ((with_reducible show ite _ _ _); walk1; (try dsimp only))))
  have fresh : ∀ b, L' < b → s.heap.get? b = none := fun b hb => by
    cases z : s.heap.get? b with
    | none => rfl
    | some o =>
      have := (hg b o).mpr ⟨by
        simp only [List.map_cons, List.map_nil, List.mem_cons, List.not_mem_nil, or_false]
        rintro (rfl | rfl)
        · exact Nat.lt_asymm hb h50L
        · exact Nat.lt_asymm hb hdxL, z⟩
      rw [Heap.get?_none_of_le (Nat.le_trans F3.above (Nat.le_of_lt hb))] at this; cases this
  have q1 : L' + 1 < c' := l1 (L' + 1, oc) (by simp)
  obtain ⟨lo, hlo, elo⟩ : ∃ lo, h3.get? f' = some lo ∧ lo = _ := ⟨_, (N3 (f', _) (List.Mem.head _)).1, rfl⟩
  obtain ⟨ps5, hps5⟩ : ∃ ps, h3.get? 50 = some (tabObj ps) := ⟨_, by exact News.get N3 (by k_mem)⟩
  refine ret h3 _ [(dx, frzDict hs3 tk3 f' 1), (f', lo), (c', oc'), (L' + 1, oc), (50, tabObj ps5)] ⟨hs3, tk3, f', 1, lo, _, _, rfl, by simp, by rw [elo], ?_, ?_, ps5, by simp⟩ ?_ ?_ ?_
  · have hcH : H.get? (L' + 1) = none := by
      cases z : H.get? (L' + 1) with
      | none => rfl
      | some o => have := KH _ _ (by simp) z; rw [fresh _ (Nat.lt_succ_self _)] at this; cases this
    clear F3 N3 X T Cg hXh hxc hxg hg hlo hx hdx ret
    rintro A₂ s₂ dx₂ es₂ n₂ Q₂ k tk KH₂ hA₂ hW hx₂ ⟨od₂, hd₂⟩ ret₂
    obtain ⟨p₂, loose₂, mean₂, mg₂, mb₂, T0⟩ := G.T
    have X0 := G.X
    have hf2 := hW (f', lo) (by simp)
    have hc2 := hW (c', oc') (by simp)
    have ho2 := hW (L' + 1, oc) (by simp)
    rw [elo] at hf2
    refine' enterLam (binds := [("key", .int k tk)]) [(L' + 1, oc)] KH₂ T0.nolimit ?hN ?hroom hf2 ⟨c', oc', vs', t', rfl, hc2, d1', d2'⟩ ?hbind2 ?hloc2 ?hh2 ?hco2 ?hgen2 ?hk2 ?hcell2
    case hN => intro p hp; simp only [List.mem_singleton] at hp; subst hp; exact ⟨ho2, hcH⟩
    case hroom => have := hA₂.dep; omega
    case hbind2 => exact rfl
    case hloc2 => exact locs rfl
    case hco2 => exact rfl
    case hgen2 => exact rfl
    case hk2 => exact rfl
    case hcell2 => decide
    intro g₂ L₂ h₂ hg₂ Kg₂ F₂ N₂ hlt₂
    have X := X0.keeps fun b o e => Kg₂ b o (by simp) e
    have T := T0.keeps fun b o e => Kg₂ b o (by simp) e
    clear X0 T0
    have hx3 : h₂.get? x = some (bookObj dx₂ es₂ n₂) ∧ h₂.get? dx₂ = some od₂ := by
      have n1 : ∀ b o, s₂.heap.get? b = some o → h₂.get? b = some o := fun b o e => by
        by_cases hb : b = L' + 1
        · subst hb
          rw [ho2] at e; cases e
          exact (N₂ (L' + 1, oc) (by simp)).1
        · exact F₂.keep _ _ ((hg₂ _ _).mpr ⟨by simpa using hb, e⟩)
      exact ⟨n1 _ _ hx₂, n1 _ _ hd₂⟩
    (repeat' (first | (k_unfold; (try dsimp only)) | ((with_reducible show wpAny _ _ _ _ _ _); (fail_if_success (with_reducible show wpAny _ _ (exec (Stmt.While _ _ _ _) _) _ _ _)); (fail_if_success (with_reducible show wpAny _ _ (exec (Stmt.For _ _ _ _ _) _) _ _ _)); (first | walk1 | (dsimp only; walk1)); (try dsimp only)) | ((with_reducible show (Frag.In _ _ ∧ _)); walk1; (try dsimp only)) | ((with_reducible show ite _ _ _); walk1; (try dsimp only))))
    refine book_getMethod_usual (X.keeps F₂.keep) hx3.1 hx3.2 ?_
    refine callWith_type0 (call_list0 fun h4 c k4 hn4 => ?_)
    have kk : ∀ b o, s₂.heap.get? b = some o → h₂.get? b = some o := fun b o e => by
      by_cases hb : b = L' + 1
      · subst hb
        rw [ho2] at e; cases e
        exact (N₂ (L' + 1, oc) (by simp)).1
      · exact F₂.keep _ _ ((hg₂ _ _).mpr ⟨by simpa using hb, e⟩)
    refine ret₂ h4 _ c _ (fun b o e => k4 _ _ (kk _ _ e)) hn4 ?_
    cases z : s₂.heap.get? h₂.objs.size with
    | none => rfl
    | some o => have := kk _ _ z; rw [Heap.get?_none_of_le (Nat.le_refl _)] at this; cases this
  · intro p hp a l c q
    simp only [List.mem_cons, List.not_mem_nil, or_false] at hp
    rcases hp with rfl | rfl | rfl | rfl | rfl
    · have := congrArg Obj.data q; cases this
    · rw [elo] at q; have := congrArg Obj.data q; cases this
    · dsimp only at q
      rw [q] at d1'
      cases d1'
      cases d2'
    · dsimp only at q
      rw [q] at dcell; cases dcell
    · have := congrArg Obj.cls q; cases this
  · intro p hp
    simp only [List.mem_cons, List.not_mem_nil, or_false] at hp
    rcases hp with rfl | rfl | rfl | rfl | rfl
    · exact (N3 (dx, _) (by simp)).1
    · exact hlo
    · exact (N3 (c', oc') (by simp)).1
    · exact (N3 (L' + 1, oc) (by simp)).1
    · exact hps5
  · intro p hp
    simp only [List.mem_cons, List.not_mem_nil, or_false] at hp
    rcases hp with rfl | rfl | rfl | rfl | rfl
    · exact .inl rfl
    · exact .inr (.inr (fresh _ (Nat.lt_trans (Nat.lt_succ_self _) (Nat.lt_trans q1 l2))))
    · exact .inr (.inr (fresh _ (Nat.lt_trans (Nat.lt_succ_self _) q1)))
    · exact .inr (.inr (fresh _ (Nat.lt_succ_self _)))
    · exact .inr (.inl rfl)
  · intro b o hb e
    exact F3.keep _ _ ((hg _ _).mpr ⟨by simpa using hb, e⟩)
end Mine

namespace Mine
open PySem PySem.W PyProof.Rows PySem.Calls
set_option maxRecDepth 100000
set_option linter.unusedVariables false

local macro_rules | `(tactic| walk_at "subscriptTail") => `(tactic| (k_here; (with_unfolding_all refine' my_item ?k1 ?k2 ?_ ?k4; (case k1 => exact News.get (by assumption) (by k_mem)); (case k4 => with_unfolding_all rfl); (case k2 => omega); k_whole)))
local macro_rules | `(tactic| walk_at "call builtin:len") => `(tactic| (k_here; (with_unfolding_all refine' my_len ?k1 ?k2 ?_; (case k1 => exact News.get (by assumption) (by k_mem)); (case k2 => omega); k_whole)))
theorem missing_frozen {w : World} {A : Around} {s : Shared} {H : Heap} {Q : Value → Shared → Prop} (G : Gnd w H) (KH : Kp [] H s.heap) (hA : Arnd A 3)
    {x dx : Addr} {es : List DictEntry} {n : Nat} {k : Int} {tk : Tok} {W : List (Addr × Obj)} (hx : s.heap.get? x = some (bookObj dx es n)) (hx1 : 58 < x) (hW : FrzAt w H x dx W) (hWs : ∀ p ∈ W, s.heap.get? p.1 = some p.2)
    (ret : ∀ h' a c t', (∀ b o, s.heap.get? b = some o → h'.get? b = some o) → h'.get? a = some { cls := .type "list", dict := none, data := .seq #[] c, slots := #[] } → s.heap.get? a = none → Q (.ref a) { s with heap := h', toks := t' }) :
    wpAny (model PG w) A (call (.ref 48) [.ref x, .int k tk]) Q (fun _ _ => False) s := by
  obtain ⟨fhs, ftk, f, fn, lo, fd, W', rfl, hf, hfd, lam, _⟩ := hW
  have hdx := hWs _ (List.Mem.head _)
  have hWs' : ∀ p ∈ W', s.heap.get? p.1 = some p.2 := fun p hp => hWs p (List.Mem.tail _ hp)
  clear hWs
  dsimp only at hdx
  obtain ⟨p, loose, mean, mg, mb, T0⟩ := G.T
  have X0 := G.X
  have hd0 : PySem.Challenge.rw_in0189_01.foot = PySem.Challenge.rw_in0189_01.foot := rfl
  revert X0 hd0
  k_fill
  intro X0 _
  refine' enterAt (binds := [("self", .ref x), ("key", .int k tk)]) [] G.X KH T0.nolimit ?hN ?hroom ?ho ?hcd ?hbind ?hloc ?h ?hcell ?hco ?hgen ?hk
  case ho => k_is
  case hN => intro p hp; cases hp
  case hroom => have := hA.dep; omega
  case hcd => k_is
  case hbind => exact BindsTo.of_eq rfl
  case hloc => exact locs rfl
  case hcell => decide
  case hco => exact rfl
  case hgen => exact rfl
  case hk => exact rfl
  intro g L' h₁ hg Kg F N hlt
  have X := X0.keeps fun b o e => Kg b o (by simp) e
  have T := T0.keeps fun b o e => Kg b o (by simp) e
  clear X0 T0
  try k_fold
  refine ks_wpAt_execs_cons (ks_wpAt_Return_some (at_Call (at_CallN ?_)))
  refine wpAny_mono (Q := fun v s' => v = .builtin "getattr" ∧ s' = ⟨h₁, s.gens, s.drawn, s.toks + 2, s.os⟩) (E := fun _ _ => False) ?_ (fun v s' hv => ?_) fun _ _ z => z.elim
  · (repeat' (first | (k_unfold; (try dsimp only)) | ((with_reducible show wpAny _ _ _ _ _ _); (fail_if_success (with_reducible show wpAny _ _ (exec (Stmt.While _ _ _ _) _) _ _ _)); (fail_if_success (with_reducible show wpAny _ _ (exec (Stmt.For _ _ _ _ _) _) _ _ _)); (first | walk1 | (dsimp only; walk1)); (try dsimp only)) | ((with_reducible show (Frag.In _ _ ∧ _)); walk1; (try dsimp only)) | ((with_reducible show ite _ _ _); walk1; (try dsimp only))))
    exact ⟨rfl, rfl⟩
  obtain ⟨rfl, rfl⟩ := hv
  refine at_callWith3 (at_spliced3 ?_)
  simp only [Bool.false_eq_true, if_false]
  (repeat' (first | (k_unfold; (try dsimp only)) | ((with_reducible show wpAny _ _ _ _ _ _); (fail_if_success (with_reducible show wpAny _ _ (exec (Stmt.While _ _ _ _) _) _ _ _)); (fail_if_success (with_reducible show wpAny _ _ (exec (Stmt.For _ _ _ _ _) _) _ _ _)); (first | walk1 | (dsimp only; walk1)); (try dsimp only)) | ((with_reducible show (Frag.In _ _ ∧ _)); walk1; (try dsimp only)) | ((with_reducible show ite _ _ _); walk1; (try dsimp only))))
  refine at_Attribute ?_
  have e0 : ∀ b o, g.get? b = some o ↔ s.heap.get? b = some o := fun b o => (hg b o).trans ⟨fun e => e.2, fun e => ⟨by simp, e⟩⟩
  have hxg : g.get? x = some (bookObj dx es n) := (e0 _ _).mpr hx
  have hdg : g.get? dx = some (frzDict fhs ftk f fn) := (e0 _ _).mpr hdx
  have hxd : x ≠ dx := fun e => by rw [e, hdx] at hx; cases hx
  refine ks_node F X N T (by k_is) (by rfl) (by rfl) (inst_book (F.keep _ _ hxg) (F.keep _ _ hdg)) (by k_is) (by rfl) (by first | rfl | decide +kernel) (by k_is) (by k_is) (by k_is) (by k_is) (by decide) (by rfl) (by rfl) (by rfl) (by rfl) (by decide +kernel) (by first | boot_by_name | rfl | kernel_rfl) ?_
  intro so h2 F2 N2 l2
  have X2 := X.keeps F2.keep
  have hso : h2.get? so = some (superObj x) := (N2 (so, superObj x) (by simp)).1
  have hx2 := F2.keep _ _ hxg
  have hd2 := F2.keep _ _ hdg
  have hne : x ≠ 58 := Nat.ne_of_gt hx1
  refine getattr_super X2 hso hx2 hne ?_
  have F3 := F2.push (o := boundMiss x)
  have hm3 : (h2.push (boundMiss x)).get? h2.objs.size = some (boundMiss x) := Heap.get?_push_size _ rfl
  generalize h2.push (boundMiss x) = h3 at F3 hm3 ⊢
  generalize h2.objs.size = m at hm3 ⊢
  refine call_getattr (X.keeps F3.keep) (F3.keep _ _ hxg) ?_
  refine getBy?_frozen (X.keeps F3.keep) (F3.keep _ _ hxg) (F3.keep _ _ hdg) ?_
  have F4 := F3
  have hf4 := F4.keep _ _ ((e0 _ _).mpr (hWs' _ hf))
  show wpAny _ _ (callWith _ (.ref f) _ _ _) _ _ _
  refine callWith_of (P := fun h => h.get? f = some lo) rfl (fun h e => ⟨.frame, .inl rfl, (Looks.ld e).andThen (Looks.of_pure (by rw [hfd]))⟩) (evalArgs_plain ?_)
  clear F F2 F3 N N2
  have N4 : News g L' h3 [] := fun p hp => by cases hp
  refine spliced1 ?_
  simp only [Bool.false_eq_true, if_false]
  (repeat' (first | (k_unfold; (try dsimp only)) | ((with_reducible show wpAny _ _ _ _ _ _); (fail_if_success (with_reducible show wpAny _ _ (exec (Stmt.While _ _ _ _) _) _ _ _)); (fail_if_success (with_reducible show wpAny _ _ (exec (Stmt.For _ _ _ _ _) _) _ _ _)); (first | walk1 | (dsimp only; walk1)); (try dsimp only)) | ((with_reducible show (Frag.In _ _ ∧ _)); walk1; (try dsimp only)) | ((with_reducible show ite _ _ _); walk1; (try dsimp only))))
  refine ⟨hf4, ?_⟩
  have kk : ∀ b o, s.heap.get? b = some o → h3.get? b = some o := fun b o e => F4.keep _ _ ((e0 _ _).mpr e)
  refine lam (s := ⟨h3, s.gens, s.drawn, _, s.os⟩) (fun b o hb e => kk _ _ (KH _ _ hb e)) hA.deeper (fun p hp => kk _ _ (hWs' p hp)) (kk _ _ hx) ⟨_, kk _ _ hdx⟩ fun h5 a c t5 k5 ha hn => ?_
  refine ret h5 a c t5 (fun b o e => k5 _ _ (kk _ _ e)) ha ?_
  cases z : s.heap.get? a with
  | none => rfl
  | some o => have := kk _ _ z; rw [hn] at this; cases this
end Mine

namespace Mine
open PySem PySem.W PyProof.Rows PySem.Calls PyProof.Rows.LCg PyProof.Rows.LCt
set_option maxRecDepth 100000
set_option linter.unusedVariables false
local macro_rules | `(tactic| walk_at "subscriptTail") => `(tactic| (k_here; (with_unfolding_all refine' my_item ?k1 ?k2 ?_ ?k4; (case k1 => exact News.get (by assumption) (by k_mem)); (case k4 => with_unfolding_all rfl); (case k2 => (first | lia | omega)); k_whole)))
local macro_rules | `(tactic| walk_at "call builtin:len") => `(tactic| (k_here; (with_unfolding_all refine' my_len ?k1 ?k2 ?_; (case k1 => exact News.get (by assumption) (by k_mem)); (case k2 => (first | lia | omega)); k_whole)))
noncomputable def fsts (a b e : Int) : List Int := ((List.range 10).map fun i : Nat => e + (i : Int)).filter fun h => decide (a ≤ h) && decide ((h - a).fmod b = 0)
abbrev tup2 (x y : Int) (t u : Tok) (n : Nat) : Obj := { cls := .type "tuple", data := .seq #[.int x t, .int y u] n }

theorem rsmall {a b : Int} (h1 : 0 ≤ a ∧ a < 2 ^ 30) (h2 : 0 ≤ b ∧ b < 2 ^ 30) : Builtin.Range.small a b 1 = true := by
  have hs : 0 ≤ Builtin.Range.rangeSize a b 1 ∧ Builtin.Range.rangeSize a b 1 < 2 ^ 31 := by
    unfold Builtin.Range.rangeSize
    simp only [show (1 : Int) > 0 by decide, if_true, Int.ediv_one]
    split <;> (first | lia | omega)
  unfold Builtin.Range.small Builtin.Range.rangeFitsLong
  simp only [show (1 : Int) > 0 by decide, if_true, Bool.and_eq_true, Bool.or_eq_true, decide_eq_true_eq]
  refine ⟨⟨⟨⟨?_, ?_⟩, ?_⟩, ?_⟩, .inr ?_⟩ <;> constructor <;> (first | lia | omega)
theorem rsize {a b : Int} {n : Nat} (e : b = a + n) : Builtin.Range.rangeSize a b 1 = (n : Int) := by
  subst e
  unfold Builtin.Range.rangeSize
  simp only [show (1 : Int) > 0 by decide, if_true, Int.ediv_one]
  split <;> (first | lia | omega)

set_option maxHeartbeats 1000000 in
theorem first_spec {w : World} {A : Around} {s : Shared} {H : Heap} {Q : Value → Shared → Prop} (G : Gnd w H) (KH : Kp [] H s.heap) (hA : Arnd A 2)
    {bl : Addr} {a b e : Int} {ta tb te : Tok} {n : Nat} (hb : s.heap.get? bl = some (tup2 a b ta tb n)) (hbH : H.get? bl = none) (hb0 : 0 < b) (he : 0 ≤ e ∧ e < 1000) (hne : fsts a b e ≠ [])
    (ret : ∀ h' tk t, Kp [] s.heap h' → Q (.int ((fsts a b e).headD 0) t) { s with heap := h', toks := tk }) :
    wpAny (model PG w) A (call (.ref 109) [.ref bl, .int e te]) Q (fun _ _ => False) s := by
  obtain ⟨p, loose, mean, mg, mb, T0⟩ := G.T
  have X0 := G.X
  have hd0 : PySem.Challenge.rw_in0189_01.foot = PySem.Challenge.rw_in0189_01.foot := rfl
  revert X0 hd0
  k_fill
  intro X0 _
  refine' enterC (binds := [("bell", .ref bl), ("edge", .int e te)]) [(bl, tup2 a b ta tb n)] G.X KH T0.nolimit ?hN ?hroom ?ho ?hcd ?hbind ?hkind ?hnd ?h ?hco ?hgen ?hk
  case ho => k_is
  case hN => intro p hp; simp only [List.mem_singleton] at hp; subst hp; exact ⟨hb, hbH⟩
  case hroom => have := hA.dep; (first | lia | omega)
  case hcd => k_is
  case hbind => exact BindsTo.of_eq rfl
  case hkind => exact rfl
  case hnd => decide +kernel
  case hco => exact rfl
  case hgen => exact rfl
  case hk => exact rfl
  intro g L' h₁ tk₁ cells hg Kg F N Y hlt
  k_cells Y
  try simp only [List.cons_append, List.nil_append] at N
  try dsimp only
  have X := X0.keeps fun b o e => Kg b o (by simp) e
  have T := T0.keeps fun b o e => Kg b o (by simp) e
  clear X0 T0
  try k_fold
  rename_i oc dcell
  have dcell : oc.data = .cell (some (.ref bl)) := dcell
  (repeat' (first | (k_unfold; (try dsimp only)) | ((with_reducible show wpAny _ _ _ _ _ _); (fail_if_success (with_reducible show wpAny _ _ (exec (Stmt.While _ _ _ _) _) _ _ _)); (fail_if_success (with_reducible show wpAny _ _ (exec (Stmt.For _ _ _ _ _) _) _ _ _)); (fail_if_success (with_reducible show wpAny _ _ (eval (Expr.ListComp _ _ _ _) _) _ _ _)); (fail_if_success (with_reducible show wpAny _ _ (exec (Stmt.Assign [_] (Expr.ListComp _ _ _ _) _) _) _ _ _)); (first | walk1 | (dsimp only; walk1)); (try dsimp only)) | ((with_reducible show (Frag.In _ _ ∧ _)); walk1; (try dsimp only)) | ((with_reducible show ite _ _ _); walk1; (try dsimp only))))
  rename Fr _ _ _ _ => F1
  refine LCt.ListComp_T (F₀ := F1) (by with_unfolding_all rfl) (by decide) (by rfl) (by decide) (by rfl) ?_
  (repeat' (first | (k_unfold; (try dsimp only)) | ((with_reducible show wpAny _ _ _ _ _ _); (fail_if_success (with_reducible show wpAny _ _ (exec (Stmt.While _ _ _ _) _) _ _ _)); (fail_if_success (with_reducible show wpAny _ _ (exec (Stmt.For _ _ _ _ _) _) _ _ _)); (fail_if_success (with_reducible show wpAny _ _ (eval (Expr.ListComp _ _ _ _) _) _ _ _)); (fail_if_success (with_reducible show wpAny _ _ (exec (Stmt.Assign [_] (Expr.ListComp _ _ _ _) _) _) _ _ _)); (first | walk1 | (dsimp only; walk1)); (try dsimp only)) | ((with_reducible show (Frag.In _ _ ∧ _)); walk1; (try dsimp only)) | ((with_reducible show ite _ _ _); walk1; (try dsimp only))))
  rename IsRange _ _ _ _ _ _ _ _ => hR
  rename News _ _ _ [_, _] => N2
  rename Fr _ _ _ _ => F2
  refine LCt.CompSrcT.range (n := 10) (by exact hA.hh) F2 N2 hR (rsmall (by (first | lia | omega)) (by (first | lia | omega))) (rsize rfl) (by decide) fun g' => ?_
  refine restT_gen (fun i ys news => news = [(L' + 1, oc), (bl, tup2 a b ta tb n)] ∧ IntsAre ys (((List.range i).map fun j : Nat => e + (j : Int)).filter fun h => decide (a ≤ h) && decide ((h - a).fmod b = 0))) (n := 10) ?_ ?_ 10 0 [] _ rfl ⟨rfl, .nil⟩
  · clear hR
    repeat (rename Fr _ _ _ _ => Fz; clear Fz)
    repeat (rename News _ _ _ _ => Nz; clear Nz)
    rintro i ys news hi ⟨rfl, hys⟩ v I oI C oC D m₂ h tk E' ⟨tv, rfl⟩ hC hx F' N' off ne
    (repeat' (first | (k_unfold; (try dsimp only)) | ((with_reducible show wpAny _ _ _ _ _ _); (fail_if_success (with_reducible show wpAny _ _ (exec (Stmt.While _ _ _ _) _) _ _ _)); (fail_if_success (with_reducible show wpAny _ _ (exec (Stmt.For _ _ _ _ _) _) _ _ _)); (fail_if_success (with_reducible show wpAny _ _ (eval (Expr.ListComp _ _ _ _) _) _ _ _)); (fail_if_success (with_reducible show wpAny _ _ (exec (Stmt.Assign [_] (Expr.ListComp _ _ _ _) _) _) _ _ _)); (first | walk1 | (dsimp only; walk1)); (try dsimp only)) | ((with_reducible show (Frag.In _ _ ∧ _)); walk1; (try dsimp only)) | ((with_reducible show ite _ _ _); walk1; (try dsimp only))))
    · rename _ ≤ _ => c1
      rename Int.fmod _ _ = _ => c2
      refine ⟨_, _, _, rfl, F', N', off, trivial, rfl, ?_⟩
      rw [filt_snoc, if_pos (by simp [c1, c2])]
      exact hys.append (.cons _ _ .nil)
    · rename _ ≤ _ => c1
      rename Int.fmod _ _ ≠ _ => c2
      refine ⟨_, _, _, rfl, F', N', off, trivial, rfl, ?_⟩
      rw [filt_snoc, if_neg (by simp [c1, c2]), List.append_nil]
      exact hys
    · rename ¬ _ ≤ _ => c1
      refine ⟨_, _, _, rfl, F', N', off, trivial, rfl, ?_⟩
      rw [filt_snoc, if_neg (by simp [c1]), List.append_nil]
      exact hys
  · clear hR
    repeat (rename Fr _ _ _ _ => Fz; clear Fz)
    repeat (rename News _ _ _ _ => Nz; clear Nz)
    rintro ys news ⟨rfl, hys⟩
    intro D h tk F' N' off
    (repeat' (first | (k_unfold; (try dsimp only)) | ((with_reducible show wpAny _ _ _ _ _ _); (fail_if_success (with_reducible show wpAny _ _ (exec (Stmt.While _ _ _ _) _) _ _ _)); (fail_if_success (with_reducible show wpAny _ _ (exec (Stmt.For _ _ _ _ _) _) _ _ _)); (fail_if_success (with_reducible show wpAny _ _ (eval (Expr.ListComp _ _ _ _) _) _ _ _)); (fail_if_success (with_reducible show wpAny _ _ (exec (Stmt.Assign [_] (Expr.ListComp _ _ _ _) _) _) _ _ _)); (first | walk1 | (dsimp only; walk1)); (try dsimp only)) | ((with_reducible show (Frag.In _ _ ∧ _)); walk1; (try dsimp only)) | ((with_reducible show ite _ _ _); walk1; (try dsimp only))))
    rename Fr _ _ _ _ => F3
    rename News _ _ _ _ => N3
    refine item_list_ints (ns := fsts a b e) ⟨_, (N3 (D, lst ys) (by simp)).1, rfl, _, rfl⟩ hys (by decide) (by
      cases hq : fsts a b e with
      | nil => exact absurd hq hne
      | cons _ _ => simp) (by decide) fun t => ?_
    have e0 : (fsts a b e).getD (0 : Int).toNat 0 = (fsts a b e).headD 0 := by cases fsts a b e <;> rfl
    rw [e0]
    refine ret h _ t (kp_of [] hg (by intro p hp; simp only [List.mem_singleton] at hp; subst hp; exact hb) F3 N3 ?_)
    intro p hp
    simp only [List.mem_singleton] at hp
    subst hp
    left; simp
end Mine

namespace Mine
open PySem PySem.W PyProof.Rows PySem.Calls PyProof.Rows.LCg PyProof.Rows.LCt
set_option maxRecDepth 100000
set_option linter.unusedVariables false
local macro_rules | `(tactic| walk_at "subscriptTail") => `(tactic| (k_here; (with_unfolding_all refine' my_item ?k1 ?k2 ?_ ?k4; (case k1 => exact News.get (by assumption) (by k_mem)); (case k4 => with_unfolding_all rfl); (case k2 => omega); k_whole)))
local macro_rules | `(tactic| walk_at "call builtin:len") => `(tactic| (k_here; (with_unfolding_all refine' my_len ?k1 ?k2 ?_; (case k1 => exact News.get (by assumption) (by k_mem)); (case k2 => omega); k_whole)))
noncomputable def cand (a b : Int) : List Int := (List.range (Builtin.Range.rangeSize a 22 b).toNat).map fun i : Nat => a + (i : Int) * b
noncomputable def okH (e : Int) (ks : List Int) (h : Int) : Bool := !(decide (e ≤ h) && !(ks.any (· == h)))
noncomputable def hoursL (a b e : Int) (ks : List Int) : List Int := (cand a b).takeWhile (okH e ks)

theorem ty_ne {a b : String} (h : a ≠ b) : Value.type a ≠ Value.type b := fun q => h (Value.type.inj q)
theorem rsize22 {a b : Int} (ha : 0 ≤ a) (hb : 0 < b) : 0 ≤ Builtin.Range.rangeSize a 22 b ∧ Builtin.Range.rangeSize a 22 b ≤ 22 := by
  unfold Builtin.Range.rangeSize
  rw [if_pos (by omega)]
  split
  · have h1 : 0 ≤ (22 - a - 1) / b := Int.ediv_nonneg (by omega) (by omega)
    have h2 : (22 - a - 1) / b ≤ 22 - a - 1 := Int.ediv_le_self _ (by omega)
    omega
  · omega
theorem rsmall22 {a b : Int} (ha : 0 ≤ a ∧ a < 1000) (hb : 0 < b ∧ b < 1000) : Builtin.Range.small a 22 b = true := by
  have hs := rsize22 ha.1 hb.1
  unfold Builtin.Range.small Builtin.Range.rangeFitsLong
  rw [if_pos (by omega)]
  simp only [Bool.and_eq_true, Bool.or_eq_true, decide_eq_true_eq]
  refine ⟨⟨⟨⟨?_, ?_⟩, ?_⟩, ?_⟩, .inr ?_⟩ <;> constructor <;> omega
theorem cand_get {a b : Int} {i : Nat} (h : i < (Builtin.Range.rangeSize a 22 b).toNat) : (cand a b).drop i = (a + (i : Int) * b) :: (cand a b).drop (i + 1) := by
  have h1 : i < (cand a b).length := by simpa [cand] using h
  rw [List.drop_eq_getElem_cons h1]
  simp [cand]
theorem cand_take {a b : Int} {i : Nat} (h : i < (Builtin.Range.rangeSize a 22 b).toNat) : (cand a b).take (i + 1) = (cand a b).take i ++ [a + (i : Int) * b] := by
  have h1 : i < (cand a b).length := by simpa [cand] using h
  rw [List.take_succ_eq_append_getElem h1]
  simp [cand]

def JHo (bl : Addr) (kl : Addr) (l : Addr) (a : Int) (b : Int) (e : Int) (ta : Tok) (tb : Tok) (te : Tok) (n : Nat) (ks : List Int) (i : Nat) (m : Str → Option Value) (h : Heap) : Prop := (m "bell" = some (.ref bl) ∧ m "edge" = some (.int e te) ∧ m "kept" = some (.ref kl) ∧ m "hours" = some (.ref l)) ∧ h.get? bl = some (tup2 a b ta tb n) ∧ ∃ ys c, h.get? l = some (W.listOf ys.toArray c) ∧ IntsAre ys ((cand a b).take i) ∧ hoursL a b e ks = (cand a b).take i ++ ((cand a b).drop i).takeWhile (okH e ks)
set_option maxHeartbeats 1000000 in
theorem hours_spec {w : World} {A : Around} {s : Shared} {H : Heap} {Q : Value → Shared → Prop} (G : Gnd w H) (KH : Kp [] H s.heap) (hA : Arnd A 2)
    {bl kl : Addr} {a b e : Int} {ta tb te : Tok} {n nk : Nat} {kvs : List Value} {ks : List Int} (hb : s.heap.get? bl = some (tup2 a b ta tb n)) (hbH : H.get? bl = none) (ha : 0 ≤ a ∧ a < 1000) (hb0 : 0 < b ∧ b < 1000) (he : 0 ≤ e ∧ e < 1000)
    (hk : s.heap.get? kl = some (W.listOf kvs.toArray nk)) (hki : IntsAre kvs ks)
    (ret : ∀ h' tk D ys c, Kp [] s.heap h' → s.heap.get? D = none → h'.get? D = some (W.listOf ys.toArray c) → IntsAre ys (hoursL a b e ks) → Q (.ref D) { s with heap := h', toks := tk }) :
    wpAny (model PG w) A (call (.ref 116) [.ref bl, .int e te, .ref kl]) Q (fun _ _ => False) s := by
  obtain ⟨p, loose, mean, mg, mb, T0⟩ := G.T
  have X0 := G.X
  have hd0 : PySem.Challenge.rw_in0189_01.foot = PySem.Challenge.rw_in0189_01.foot := rfl
  revert X0 hd0
  k_fill
  intro X0 _
  refine' enter (binds := [("bell", .ref bl), ("edge", .int e te), ("kept", .ref kl)]) [(bl, tup2 a b ta tb n)] G.X KH T0.nolimit ?hN ?hroom ?ho ?hcd ?hbind ?hloc ?h ?hcell ?hco ?hgen ?hk
  case ho => k_is
  case hN => intro p hp; simp only [List.mem_singleton] at hp; subst hp; exact ⟨hb, hbH⟩
  case hroom => have := hA.dep; omega
  case hcd => k_is
  case hbind => exact BindsTo.of_eq rfl
  case hloc => exact locs rfl
  case hcell => decide
  case hco => exact rfl
  case hgen => exact rfl
  case hk => exact rfl
  intro g L' h₁ hg Kg F N hlt
  have X := X0.keeps fun b o e => Kg b o (by simp) e
  have T := T0.keeps fun b o e => Kg b o (by simp) e
  clear X0 T0
  try k_fold
  have hkb : kl ≠ bl := fun q => by rw [q, hb] at hk; exact ty_ne (by decide) (congrArg Obj.cls (Option.some.inj hk))
  have hkg : g.get? kl = some (W.listOf kvs.toArray nk) := (hg _ _).mpr ⟨by simpa using hkb, hk⟩
  (repeat' (first | (k_unfold; (try dsimp only)) | ((with_reducible show wpAny _ _ _ _ _ _); (fail_if_success (with_reducible show wpAny _ _ (exec (Stmt.While _ _ _ _) _) _ _ _)); (fail_if_success (with_reducible show wpAny _ _ (exec (Stmt.For _ _ _ _ _) _) _ _ _)); (fail_if_success (with_reducible show wpAny _ _ (eval (Expr.ListComp _ _ _ _) _) _ _ _)); (fail_if_success (with_reducible show wpAny _ _ (exec (Stmt.Assign [_] (Expr.ListComp _ _ _ _) _) _) _ _ _)); (first | walk1 | (dsimp only; walk1)); (try dsimp only)) | ((with_reducible show (Frag.In _ _ ∧ _)); walk1; (try dsimp only)) | ((with_reducible show ite _ _ _); walk1; (try dsimp only))))
  rename News _ _ _ _ => N1
  rename Fr _ _ _ _ => F1
  rename_i _ l _ hbl hp
  have hgl : g.get? l = none := (N1 (l, _) (.head _)).2.2
  have hlL : l ≠ L' := (N1 (l, _) (.head _)).2.1
  have hbL : bl ≠ L' := (N1 (bl, tup2 a b ta tb n) (by simp)).2.1
  have hgb : g.get? bl = none := (N1 (bl, tup2 a b ta tb n) (by simp)).2.2
  have hlb : l ≠ bl := Nat.ne_of_gt hbl
  have hsl : s.heap.get? l = none := by
    cases z : s.heap.get? l with
    | none => rfl
    | some o => have := (hg l o).mpr ⟨by simpa using hlb, z⟩; rw [hgl] at this; cases this
  have rs := rsize22 (a := a) (b := b) ha.1 hb0.1
  refine my_for_rit (n := (Builtin.Range.rangeSize a 22 b).toNat) (a := a) (c := b) (g := g)
    (JHo bl kl l a b e ta tb te n ks) hA.hh rfl (by with_unfolding_all rfl) ?_ ?_ ?_ ?_
  · rintro i m h h' ⟨a1, e1, ys, c, e2, r⟩ hk
    exact ⟨a1, hk _ _ hbL (ty_ne (by decide)) e1, ys, c, hk _ _ hlL (ty_ne (by decide)) e2, r⟩
  · (repeat' (first | (k_unfold; (try dsimp only)) | ((with_reducible show wpAny _ _ _ _ _ _); (fail_if_success (with_reducible show wpAny _ _ (exec (Stmt.While _ _ _ _) _) _ _ _)); (fail_if_success (with_reducible show wpAny _ _ (exec (Stmt.For _ _ _ _ _) _) _ _ _)); (fail_if_success (with_reducible show wpAny _ _ (eval (Expr.ListComp _ _ _ _) _) _ _ _)); (fail_if_success (with_reducible show wpAny _ _ (exec (Stmt.Assign [_] (Expr.ListComp _ _ _ _) _) _) _ _ _)); (first | walk1 | (dsimp only; walk1)); (try dsimp only)) | ((with_reducible show (Frag.In _ _ ∧ _)); walk1; (try dsimp only)) | ((with_reducible show ite _ _ _); walk1; (try dsimp only))))
    rename Fr _ _ _ _ => F2
    rename News _ _ _ [_, _] => N2
    rename IsRange _ _ _ _ _ _ _ _ => R
    refine wpAny_pyIter_range R (rsmall22 ha hb0) ?_
    refine ⟨_, _, _, _, rfl, rfl, ?_, fresh_none F2, fresh_ne F2, F2.push _, ⟨rfl, rfl, rfl, rfl⟩, Heap.get?_push_of_some _ (N2 (bl, _) (by simp)).1, [], 0, Heap.get?_push_of_some _ (N2 (l, _) (by simp)).1, .nil, rfl⟩
    have e1 : ((Builtin.Range.rangeSize a 22 b).toNat : Int) = Builtin.Range.rangeSize a 22 b := by omega
    rw [e1]
    exact Heap.get?_push_size _ rfl
  · rintro i I ro m h tk t hi ⟨⟨a1, a2, a3, a4⟩, eb, ys, c, el, hys, hgo⟩ hgI hIL hro hI F
    have F2 : Fr g L' h _ := known5 (a := "hour") (b := "bell") (c := "edge") (d := "kept") (e := "hours") F rfl a1 a2 a3 a4
    have N2 : News g L' h [(l, W.listOf ys.toArray c), (bl, tup2 a b ta tb n), (I, ro)] := by
      intro p hp
      simp only [List.mem_cons, List.not_mem_nil, or_false] at hp
      rcases hp with rfl | rfl | rfl
      · exact ⟨el, hlL, hgl⟩
      · exact ⟨eb, hbL, hgb⟩
      · exact ⟨hI, hIL, hgI⟩
    have hlI : l ≠ I := fun q => by
      subst q; rw [hI] at el; cases el; exact ty_ne (by decide) hro
    have hIl : I ≠ l := hlI.symm
    have hbl2 : bl ≠ l := hlb.symm
    clear F F1 N1
    (repeat' (first | (k_unfold; (try dsimp only)) | ((with_reducible show wpAny _ _ _ _ _ _); (fail_if_success (with_reducible show wpAny _ _ (exec (Stmt.While _ _ _ _) _) _ _ _)); (fail_if_success (with_reducible show wpAny _ _ (exec (Stmt.For _ _ _ _ _) _) _ _ _)); (fail_if_success (with_reducible show wpAny _ _ (eval (Expr.ListComp _ _ _ _) _) _ _ _)); (fail_if_success (with_reducible show wpAny _ _ (exec (Stmt.Assign [_] (Expr.ListComp _ _ _ _) _) _) _ _ _)); (first | walk1 | (dsimp only; walk1)); (try dsimp only)) | ((with_reducible show (Frag.In _ _ ∧ _)); walk1; (try dsimp only)) | ((with_reducible show ite _ _ _); walk1; (try dsimp only))))
    · rename _ ≤ _ => c1
      refine notin_list_ints (ns := ks) ⟨_, F2.keep _ _ hkg, rfl, _, rfl⟩ hki ?_
      cases hc : ks.any fun x => x == a + (i : Int) * b
      · (repeat' (first | (k_unfold; (try dsimp only)) | ((with_reducible show wpAny _ _ _ _ _ _); (fail_if_success (with_reducible show wpAny _ _ (exec (Stmt.While _ _ _ _) _) _ _ _)); (fail_if_success (with_reducible show wpAny _ _ (exec (Stmt.For _ _ _ _ _) _) _ _ _)); (fail_if_success (with_reducible show wpAny _ _ (eval (Expr.ListComp _ _ _ _) _) _ _ _)); (fail_if_success (with_reducible show wpAny _ _ (exec (Stmt.Assign [_] (Expr.ListComp _ _ _ _) _) _) _ _ _)); (first | walk1 | (dsimp only; walk1)); (try dsimp only)) | ((with_reducible show (Frag.In _ _ ∧ _)); walk1; (try dsimp only)) | ((with_reducible show ite _ _ _); walk1; (try dsimp only))))
        refine ret _ _ l ys c (kp_of [] hg (by intro p hp; simp only [List.mem_singleton] at hp; subst hp; exact hb) F2 N2 (by intro p hp; simp only [List.mem_singleton] at hp; subst hp; left; simp)) hsl el ?_
        rw [hgo, cand_get hi, List.takeWhile_cons, if_neg (by simp only [okH, hc]; simp [c1])]
        simpa using hys
      · (repeat' (first | (k_unfold; (try dsimp only)) | ((with_reducible show wpAny _ _ _ _ _ _); (fail_if_success (with_reducible show wpAny _ _ (exec (Stmt.While _ _ _ _) _) _ _ _)); (fail_if_success (with_reducible show wpAny _ _ (exec (Stmt.For _ _ _ _ _) _) _ _ _)); (fail_if_success (with_reducible show wpAny _ _ (eval (Expr.ListComp _ _ _ _) _) _ _ _)); (fail_if_success (with_reducible show wpAny _ _ (exec (Stmt.Assign [_] (Expr.ListComp _ _ _ _) _) _) _ _ _)); (first | walk1 | (dsimp only; walk1)); (try dsimp only)) | ((with_reducible show (Frag.In _ _ ∧ _)); walk1; (try dsimp only)) | ((with_reducible show ite _ _ _); walk1; (try dsimp only))))
        rename Fr _ _ _ _ => F4
        rename News _ _ _ _ => N4
        refine ⟨_, _, _, rfl, (N4 (I, ro) (by simp)).1, F4, ⟨rfl, rfl, rfl, rfl⟩, (N4 (bl, _) (by simp)).1, ys ++ [.int (a + (i : Int) * b) t], c + 1, ?_, ?_, ?_⟩
        · rw [← List.push_toArray]; exact (N4 (l, _) (by simp)).1
        · rw [cand_take hi]; exact hys.append (.cons _ _ .nil)
        · rw [hgo, cand_get hi, List.takeWhile_cons, if_pos (by simp only [okH, hc]; simp), cand_take hi]; simp
    · rename ¬ _ ≤ _ => c1
      rename Fr _ _ _ _ => F4
      rename News _ _ _ _ => N4
      refine ⟨_, _, _, rfl, (N4 (I, ro) (by simp)).1, F4, ⟨rfl, rfl, rfl, rfl⟩, (N4 (bl, _) (by simp)).1, ys ++ [.int (a + (i : Int) * b) t], c + 1, ?_, ?_, ?_⟩
      · rw [← List.push_toArray]; exact (N4 (l, _) (by simp)).1
      · rw [cand_take hi]; exact hys.append (.cons _ _ .nil)
      · rw [hgo, cand_get hi, List.takeWhile_cons, if_pos (by simp only [okH]; simp; omega), cand_take hi]; simp
  · rintro m h tk ⟨⟨a1, a2, a3, a4⟩, eb, ys, c, el, hys, hgo⟩ F
    have F2 : Fr g L' h _ := known4 (a := "bell") (b := "edge") (c := "kept") (d := "hours") F a1 a2 a3 a4
    clear F F1 N1
    have N2 : News g L' h [(l, W.listOf ys.toArray c), (bl, tup2 a b ta tb n)] := by
      intro p hp
      simp only [List.mem_cons, List.not_mem_nil, or_false] at hp
      rcases hp with rfl | rfl
      · exact ⟨el, hlL, hgl⟩
      · exact ⟨eb, hbL, hgb⟩
    (repeat' (first | (k_unfold; (try dsimp only)) | ((with_reducible show wpAny _ _ _ _ _ _); (fail_if_success (with_reducible show wpAny _ _ (exec (Stmt.While _ _ _ _) _) _ _ _)); (fail_if_success (with_reducible show wpAny _ _ (exec (Stmt.For _ _ _ _ _) _) _ _ _)); (fail_if_success (with_reducible show wpAny _ _ (eval (Expr.ListComp _ _ _ _) _) _ _ _)); (fail_if_success (with_reducible show wpAny _ _ (exec (Stmt.Assign [_] (Expr.ListComp _ _ _ _) _) _) _ _ _)); (first | walk1 | (dsimp only; walk1)); (try dsimp only)) | ((with_reducible show (Frag.In _ _ ∧ _)); walk1; (try dsimp only)) | ((with_reducible show ite _ _ _); walk1; (try dsimp only))))
    refine ret _ _ l ys c (kp_of [] hg (by intro p hp; simp only [List.mem_singleton] at hp; subst hp; exact hb) F2 N2 (by intro p hp; simp only [List.mem_singleton] at hp; subst hp; left; simp)) hsl el ?_
    have e1 : (cand a b).length = (Builtin.Range.rangeSize a 22 b).toNat := by simp [cand]
    rw [hgo, List.drop_eq_nil_of_le (by omega)]
    simpa using hys
end Mine

namespace Mine
open PySem PySem.W PyProof.Rows PySem.Calls PyProof.Rows.LCg PyProof.Rows.LCt
set_option maxRecDepth 100000
set_option linter.unusedVariables false
local macro_rules | `(tactic| walk_at "subscriptTail") => `(tactic| (k_here; (with_unfolding_all refine' my_item ?k1 ?k2 ?_ ?k4; (case k1 => exact News.get (by assumption) (by k_mem)); (case k4 => with_unfolding_all rfl); (case k2 => (first | lia | omega)); k_whole)))
local macro_rules | `(tactic| walk_at "call builtin:len") => `(tactic| (k_here; (with_unfolding_all refine' my_len ?k1 ?k2 ?_; (case k1 => exact News.get (by assumption) (by k_mem)); (case k2 => (first | lia | omega)); k_whole)))
def ChainsAt (h : Heap) (cl : Addr) (css : List (List Int)) : Prop := ∃ (vs : List Value) (c : Nat), h.get? cl = some (W.listOf vs.toArray c) ∧ vs.length = css.length ∧
  ∀ (j : Nat) (cs : List Int), css[j]? = some cs → ∃ (D : Addr) (ys : List Value) (c' : Nat), vs[j]? = some (.ref D) ∧ h.get? D = some (W.listOf ys.toArray c') ∧ IntsAre ys cs
noncomputable def standP (css : List (List Int)) (hour : Int) (j : Nat) : Bool := (((css.getD j []).filter fun o => decide (12 ≤ o)).take 1 == [hour])
noncomputable def standsL (css : List (List Int)) (hour : Int) : List Int := if hour < 12 then [] else ((List.range css.length).map fun i : Nat => (0 : Int) + (i : Int)).filter fun j => standP css hour j.toNat

set_option maxHeartbeats 1000000 in
theorem stands_spec {w : World} {A : Around} {s : Shared} {H : Heap} {Q : Value → Shared → Prop} (G : Gnd w H) (KH : Kp [] H s.heap) (hA : Arnd A 12)
    {cl : Addr} {css : List (List Int)} {hour : Int} {th : Tok} (hc : ChainsAt s.heap cl css) (hn : css.length < 64) (hn2 : ∀ cs ∈ css, cs.length < 64)
    (ret : ∀ h' tk D ys c, Kp [] s.heap h' → s.heap.get? D = none → h'.get? D = some (W.listOf ys.toArray c) → IntsAre ys (standsL css hour) → Q (.ref D) { s with heap := h', toks := tk }) :
    wpAny (model PG w) A (call (.ref 126) [.ref cl, .int hour th]) Q (fun _ _ => False) s := by
  obtain ⟨vs, cc, hcl, hlen, hsub⟩ := hc
  obtain ⟨p, loose, mean, mg, mb, T0⟩ := G.T
  have X0 := G.X
  have hd0 : PySem.Challenge.rw_in0189_01.foot = PySem.Challenge.rw_in0189_01.foot := rfl
  revert X0 hd0
  k_fill
  intro X0 _
  refine' enterC (binds := [("chains", .ref cl), ("hour", .int hour th)]) [] G.X KH T0.nolimit ?hN ?hroom ?ho ?hcd ?hbind ?hkind ?hnd ?h ?hco ?hgen ?hk
  case ho => k_is
  case hN => intro p hp; cases hp
  case hroom => have := hA.dep; (first | lia | omega)
  case hcd => k_is
  case hbind => exact BindsTo.of_eq rfl
  case hkind => exact rfl
  case hnd => decide +kernel
  case hco => exact rfl
  case hgen => exact rfl
  case hk => exact rfl
  intro g L' h₁ tk₁ cells hg Kg F N Y hlt
  k_cells Y
  try simp only [List.cons_append, List.nil_append] at N
  try dsimp only
  have X := X0.keeps fun b o e => Kg b o (by simp) e
  have T := T0.keeps fun b o e => Kg b o (by simp) e
  clear X0 T0
  try k_fold
  have e0 : ∀ b o, g.get? b = some o ↔ s.heap.get? b = some o := fun b o => (hg b o).trans ⟨fun e => e.2, fun e => ⟨by simp, e⟩⟩
  have hclg := (e0 _ _).mpr hcl
  rename_i o1 o2 d1 d2
  have d1 : o1.data = .cell (some (.int hour th)) := d1
  have d2 : o2.data = .cell (some (.ref cl)) := d2
  have kpF : ∀ {h' : Heap} {m' : Str → Option Value}, Fr g L' h' m' → Kp [] s.heap h' := fun F b o _ e => F.keep _ _ ((e0 _ _).mpr e)
  have gn : ∀ D, g.get? D = none → s.heap.get? D = none := fun D z => by
    cases q : s.heap.get? D with
    | none => rfl
    | some o => rw [(e0 _ _).mpr q] at z; cases z
  (repeat' (first | (k_unfold; (try dsimp only)) | ((with_reducible show wpAny _ _ _ _ _ _); (fail_if_success (with_reducible show wpAny _ _ (exec (Stmt.While _ _ _ _) _) _ _ _)); (fail_if_success (with_reducible show wpAny _ _ (exec (Stmt.For _ _ _ _ _) _) _ _ _)); (fail_if_success (with_reducible show wpAny _ _ (eval (Expr.ListComp _ _ _ _) _) _ _ _)); (fail_if_success (with_reducible show wpAny _ _ (exec (Stmt.Assign [_] (Expr.ListComp _ _ _ _) _) _) _ _ _)); (first | walk1 | (dsimp only; walk1)); (try dsimp only)) | ((with_reducible show (Frag.In _ _ ∧ _)); walk1; (try dsimp only)) | ((with_reducible show ite _ _ _); walk1; (try dsimp only))))
  · rename _ < _ => c1
    rename News _ _ _ [_, _, _] => N3
    have q := N3 _ (List.Mem.head _)
    have hst : IntsAre [] (standsL css hour) := by
      rw [standsL, if_pos c1]
      exact .nil
    exact ret _ _ _ [] 0 (kpF (by assumption)) (gn _ q.2.2) q.1 hst
  · rename ¬ _ < _ => c1
    rename Fr _ _ _ _ => F1
    rename News _ _ _ _ => N1
    refine LCt.ListComp_T (F₀ := F1) (by with_unfolding_all rfl) (by decide) (by rfl) (by decide) (by rfl) ?_
    (repeat' (first | (k_unfold; (try dsimp only)) | ((with_reducible show wpAny _ _ _ _ _ _); (fail_if_success (with_reducible show wpAny _ _ (exec (Stmt.While _ _ _ _) _) _ _ _)); (fail_if_success (with_reducible show wpAny _ _ (exec (Stmt.For _ _ _ _ _) _) _ _ _)); (fail_if_success (with_reducible show wpAny _ _ (eval (Expr.ListComp _ _ _ _) _) _ _ _)); (fail_if_success (with_reducible show wpAny _ _ (exec (Stmt.Assign [_] (Expr.ListComp _ _ _ _) _) _) _ _ _)); (first | walk1 | (dsimp only; walk1)); (try dsimp only)) | ((with_reducible show (Frag.In _ _ ∧ _)); walk1; (try dsimp only)) | ((with_reducible show ite _ _ _); walk1; (try dsimp only))))
    have es : vs.toArray.size = css.length := by simp [hlen]
    refine len_list (items := vs.toArray) ⟨_, F1.keep _ _ hclg, rfl, _, rfl⟩ (by rw [es]; (first | lia | omega)) ?_
    rw [es]
    (repeat' (first | (k_unfold; (try dsimp only)) | ((with_reducible show wpAny _ _ _ _ _ _); (fail_if_success (with_reducible show wpAny _ _ (exec (Stmt.While _ _ _ _) _) _ _ _)); (fail_if_success (with_reducible show wpAny _ _ (exec (Stmt.For _ _ _ _ _) _) _ _ _)); (fail_if_success (with_reducible show wpAny _ _ (eval (Expr.ListComp _ _ _ _) _) _ _ _)); (fail_if_success (with_reducible show wpAny _ _ (exec (Stmt.Assign [_] (Expr.ListComp _ _ _ _) _) _) _ _ _)); (first | walk1 | (dsimp only; walk1)); (try dsimp only)) | ((with_reducible show (Frag.In _ _ ∧ _)); walk1; (try dsimp only)) | ((with_reducible show ite _ _ _); walk1; (try dsimp only))))
    rename IsRange _ _ _ _ _ _ _ _ => hR
    rename News _ _ _ [_, _] => N2
    rename Fr _ _ _ _ => F2
    refine LCt.CompSrcT.range (n := css.length) (by exact hA.hh) F2 N2 hR (rsmall (by (first | lia | omega)) (by (first | lia | omega))) (rsize (by (first | lia | omega))) (by rw [sizeLine_eq]; (first | lia | omega)) fun g' => ?_
    refine restT_gen (fun i ys news => news = [(L' + 1 + 1, o1), (L' + 1, o2)] ∧ IntsAre ys (((List.range i).map fun i : Nat => (0 : Int) + (i : Int)).filter fun j => standP css hour j.toNat)) (n := css.length) ?_ ?_ css.length 0 [] _ (by (first | lia | omega)) ⟨rfl, .nil⟩
    · clear hR
      repeat (rename Fr _ _ _ _ => Fz; clear Fz)
      repeat (rename News _ _ _ _ => Nz; clear Nz)
      rintro i ys news hi ⟨rfl, hys⟩ v I oI C oC D m₂ h tk E' ⟨tv, rfl⟩ hC hx F' N' off ne
      (repeat' (first | (k_unfold; (try dsimp only)) | ((with_reducible show wpAny _ _ _ _ _ _); (fail_if_success (with_reducible show wpAny _ _ (exec (Stmt.While _ _ _ _) _) _ _ _)); (fail_if_success (with_reducible show wpAny _ _ (exec (Stmt.For _ _ _ _ _) _) _ _ _)); (fail_if_success (with_reducible show wpAny _ _ (eval (Expr.ListComp _ _ _ _) _) _ _ _)); (fail_if_success (with_reducible show wpAny _ _ (exec (Stmt.Assign [_] (Expr.ListComp _ _ _ _) _) _) _ _ _)); (first | walk1 | (dsimp only; walk1)); (try dsimp only)) | ((with_reducible show (Frag.In _ _ ∧ _)); walk1; (try dsimp only)) | ((with_reducible show ite _ _ _); walk1; (try dsimp only))))
      rename Fr _ _ _ _ => F3
      obtain ⟨cs, hcs⟩ : ∃ cs, css[i]? = some cs := ⟨css[i], by simp [hi]⟩
      obtain ⟨Dj, yj, cj, hv, hD, hints⟩ := hsub i cs hcs
      have hDg := (e0 _ _).mpr hD
      refine LCt.ListComp_T (F₀ := F3) (by with_unfolding_all rfl) (by decide) (by rfl) (by decide) (by rfl) ?_
      (repeat' (first | (k_unfold; (try dsimp only)) | ((with_reducible show wpAny _ _ _ _ _ _); (fail_if_success (with_reducible show wpAny _ _ (exec (Stmt.While _ _ _ _) _) _ _ _)); (fail_if_success (with_reducible show wpAny _ _ (exec (Stmt.For _ _ _ _ _) _) _ _ _)); (fail_if_success (with_reducible show wpAny _ _ (eval (Expr.ListComp _ _ _ _) _) _ _ _)); (fail_if_success (with_reducible show wpAny _ _ (exec (Stmt.Assign [_] (Expr.ListComp _ _ _ _) _) _) _ _ _)); (first | walk1 | (dsimp only; walk1)); (try dsimp only)) | ((with_reducible show (Frag.In _ _ ∧ _)); walk1; (try dsimp only)) | ((with_reducible show ite _ _ _); walk1; (try dsimp only))))
      rename Fr _ _ _ _ => F4
      refine item_list (items := vs.toArray) ⟨_, F4.keep _ _ hclg, rfl, _, rfl⟩ (by (first | lia | omega)) (by (first | lia | omega)) (x := .ref Dj) (by
        rw [show ((0 : Int) + (i : Int)).toNat = i by (first | lia | omega), List.getElem?_toArray]; exact hv) ?_
      (repeat' (first | (k_unfold; (try dsimp only)) | ((with_reducible show wpAny _ _ _ _ _ _); (fail_if_success (with_reducible show wpAny _ _ (exec (Stmt.While _ _ _ _) _) _ _ _)); (fail_if_success (with_reducible show wpAny _ _ (exec (Stmt.For _ _ _ _ _) _) _ _ _)); (fail_if_success (with_reducible show wpAny _ _ (eval (Expr.ListComp _ _ _ _) _) _ _ _)); (fail_if_success (with_reducible show wpAny _ _ (exec (Stmt.Assign [_] (Expr.ListComp _ _ _ _) _) _) _ _ _)); (first | walk1 | (dsimp only; walk1)); (try dsimp only)) | ((with_reducible show (Frag.In _ _ ∧ _)); walk1; (try dsimp only)) | ((with_reducible show ite _ _ _); walk1; (try dsimp only))))
      rename News _ _ _ [_, _, _, _, _] => N4
      rename Fr _ _ _ _ => F5
      refine LCt.CompSrcT.base (its := yj.toArray) (by exact hA.hh) F5 N4 ⟨_, hDg, rfl, _, rfl⟩ (by
        rw [sizeLine_eq, List.size_toArray, hints.length]
        have := hn2 cs (List.mem_of_getElem? hcs); (first | lia | omega)) fun g'' => ?_
      refine restT_gen (fun i2 zs news => news = [(I, oI), (C, oC), (D, lst ys), (L' + 1 + 1, o1), (L' + 1, o2)] ∧ IntsAre zs ((cs.take i2).filter fun o => decide (12 ≤ o))) (n := yj.toArray.size) ?_ ?_ _ 0 [] _ (by (first | lia | omega)) ⟨rfl, .nil⟩
      · repeat (rename Fr _ _ _ _ => Fz; clear Fz)
        repeat (rename News _ _ _ _ => Nz; clear Nz)
        rintro i2 zs news hi2 ⟨rfl, hzs⟩ v2 I2 oI2 C2 oC2 D2 m2 h2 tk2 E2 hv2 hC2 hx2 F' N' off2 ne2
        have hi3 : i2 < cs.length := by rw [← hints.length]; simpa using hi2
        obtain ⟨t2, ht2⟩ := hints.get i2 cs[i2] (by simp [hi3])
        have hv3 : v2 = .int cs[i2] t2 := by
          rw [List.getElem?_toArray, ht2] at hv2
          exact (Option.some.inj hv2).symm
        subst hv3
        (repeat' (first | (k_unfold; (try dsimp only)) | ((with_reducible show wpAny _ _ _ _ _ _); (fail_if_success (with_reducible show wpAny _ _ (exec (Stmt.While _ _ _ _) _) _ _ _)); (fail_if_success (with_reducible show wpAny _ _ (exec (Stmt.For _ _ _ _ _) _) _ _ _)); (fail_if_success (with_reducible show wpAny _ _ (eval (Expr.ListComp _ _ _ _) _) _ _ _)); (fail_if_success (with_reducible show wpAny _ _ (exec (Stmt.Assign [_] (Expr.ListComp _ _ _ _) _) _) _ _ _)); (first | walk1 | (dsimp only; walk1)); (try dsimp only)) | ((with_reducible show (Frag.In _ _ ∧ _)); walk1; (try dsimp only)) | ((with_reducible show ite _ _ _); walk1; (try dsimp only))))
        · rename _ ≤ _ => c2
          refine ⟨_, _, _, rfl, by assumption, N', off2, .inl ⟨_, hDg, rfl, _, rfl⟩, rfl, ?_⟩
          rw [List.take_succ_eq_append_getElem hi3, List.filter_append, List.filter_cons, if_pos (by simpa using c2)]
          exact hzs.append (.cons _ _ .nil)
        · rename ¬ _ ≤ _ => c2
          refine ⟨_, _, _, rfl, by assumption, N', off2, .inl ⟨_, hDg, rfl, _, rfl⟩, rfl, ?_⟩
          rw [List.take_succ_eq_append_getElem hi3, List.filter_append, List.filter_cons, if_neg (by simpa using c2), List.filter_nil, List.append_nil]
          exact hzs
      · repeat (rename Fr _ _ _ _ => Fz; clear Fz)
        repeat (rename News _ _ _ _ => Nz; clear Nz)
        rintro zs news ⟨rfl, hzs⟩
        intro D2 h2 tk2 F' N' off2
        have hzs : IntsAre zs (cs.filter fun o => decide (12 ≤ o)) := by
          rw [List.take_of_length_le (by rw [List.size_toArray, hints.length]; exact Nat.le_refl _)] at hzs; exact hzs
        (repeat' (first | (k_unfold; (try dsimp only)) | ((with_reducible show wpAny _ _ _ _ _ _); (fail_if_success (with_reducible show wpAny _ _ (exec (Stmt.While _ _ _ _) _) _ _ _)); (fail_if_success (with_reducible show wpAny _ _ (exec (Stmt.For _ _ _ _ _) _) _ _ _)); (fail_if_success (with_reducible show wpAny _ _ (eval (Expr.ListComp _ _ _ _) _) _ _ _)); (fail_if_success (with_reducible show wpAny _ _ (exec (Stmt.Assign [_] (Expr.ListComp _ _ _ _) _) _) _ _ _)); (first | walk1 | (dsimp only; walk1)); (try dsimp only)) | ((with_reducible show (Frag.In _ _ ∧ _)); walk1; (try dsimp only)) | ((with_reducible show ite _ _ _); walk1; (try dsimp only))))
        refine' kmk_slice_ints (s := ⟨h2, s.gens, s.drawn, _, s.os⟩) (vs := zs) (lo := none) (hi := some 1) F' N' ⟨_, (N' (D2, lst zs) (by simp)).1, rfl, _, rfl⟩ ?p1 ?p2 hzs (kmk_upto hzs (y := 1) (by decide)) rfl ?k1 ?k2 ?k3 ?k4
        case k2 => with_unfolding_all rfl
        case k3 => intro _; with_unfolding_all rfl
        case k4 =>
          rw [List.size_toArray, hzs.length, sizeLine_eq]
          have := hn2 cs (List.mem_of_getElem? hcs)
          have := List.length_filter_le (fun o : Int => decide (12 ≤ o)) cs
          (first | lia | omega)
        case p1 => kmk_part
        case p2 => kmk_part
        intro D3 ws h3 F7 N7 l7 hws _ _
        clear F' N'
        (repeat' (first | (k_unfold; (try dsimp only)) | ((with_reducible show wpAny _ _ _ _ _ _); (fail_if_success (with_reducible show wpAny _ _ (exec (Stmt.While _ _ _ _) _) _ _ _)); (fail_if_success (with_reducible show wpAny _ _ (exec (Stmt.For _ _ _ _ _) _) _ _ _)); (fail_if_success (with_reducible show wpAny _ _ (eval (Expr.ListComp _ _ _ _) _) _ _ _)); (fail_if_success (with_reducible show wpAny _ _ (exec (Stmt.Assign [_] (Expr.ListComp _ _ _ _) _) _) _ _ _)); (first | walk1 | (dsimp only; walk1)); (try dsimp only)) | ((with_reducible show (Frag.In _ _ ∧ _)); walk1; (try dsimp only)) | ((with_reducible show ite _ _ _); walk1; (try dsimp only))))
        rename News _ _ _ [_, _, _, _, _, _, _, _] => N8
        rename Fr _ _ _ _ => F8
        have q3 := (N8 (D3, W.listOf ws.toArray 0) (by simp)).1
        have q4 := (N8 _ (List.Mem.head _)).1
        refine eq_intsK (vs := ws) (us := [.int hour th]) (ms := [hour]) ⟨_, q3, rfl, _, rfl⟩ hws ⟨_, q4, rfl, _, rfl⟩ (.cons _ _ .nil) (by have := hA.uni; simp only [units_deeper]; (first | lia | omega)) ?_
        have sub8 : ∀ p ∈ [(I, oI), (C, oC), (D, lst ys), (L' + 1 + 1, o1), (L' + 1, o2)], News g L' _ [p] := fun p hp q hq => N8 q (by
          rw [List.mem_singleton.mp hq]
          exact List.Mem.tail _ (List.Mem.tail _ (List.Mem.tail _ hp)))
        have N9 : News g L' _ [(I, oI), (C, oC), (D, lst ys), (L' + 1 + 1, o1), (L' + 1, o2)] := fun p hp => sub8 p hp p (by simp)
        have hst : standP css hour ((0 : Int) + (i : Int)).toNat = decide ((cs.filter fun o => decide (12 ≤ o)).take (1 : Int).toNat = [hour]) := by
          rw [show ((0 : Int) + (i : Int)).toNat = i by (first | lia | omega)]
          unfold standP
          rw [List.getD_eq_getElem?_getD, hcs]
          simp only [Option.getD_some]
          rw [Bool.eq_iff_iff, beq_iff_eq, decide_eq_true_iff]
          exact Iff.rfl
        cases hd1 : decide ((cs.filter fun o => decide (12 ≤ o)).take (1 : Int).toNat = [hour])
        · (repeat' (first | (k_unfold; (try dsimp only)) | ((with_reducible show wpAny _ _ _ _ _ _); (fail_if_success (with_reducible show wpAny _ _ (exec (Stmt.While _ _ _ _) _) _ _ _)); (fail_if_success (with_reducible show wpAny _ _ (exec (Stmt.For _ _ _ _ _) _) _ _ _)); (fail_if_success (with_reducible show wpAny _ _ (eval (Expr.ListComp _ _ _ _) _) _ _ _)); (fail_if_success (with_reducible show wpAny _ _ (exec (Stmt.Assign [_] (Expr.ListComp _ _ _ _) _) _) _ _ _)); (first | walk1 | (dsimp only; walk1)); (try dsimp only)) | ((with_reducible show (Frag.In _ _ ∧ _)); walk1; (try dsimp only)) | ((with_reducible show ite _ _ _); walk1; (try dsimp only))))
          refine ⟨_, _, _, rfl, F8, N9, off, trivial, rfl, ?_⟩
          rw [filt_snoc, if_neg (by rw [hst, hd1]; decide), List.append_nil]
          exact hys
        · (repeat' (first | (k_unfold; (try dsimp only)) | ((with_reducible show wpAny _ _ _ _ _ _); (fail_if_success (with_reducible show wpAny _ _ (exec (Stmt.While _ _ _ _) _) _ _ _)); (fail_if_success (with_reducible show wpAny _ _ (exec (Stmt.For _ _ _ _ _) _) _ _ _)); (fail_if_success (with_reducible show wpAny _ _ (eval (Expr.ListComp _ _ _ _) _) _ _ _)); (fail_if_success (with_reducible show wpAny _ _ (exec (Stmt.Assign [_] (Expr.ListComp _ _ _ _) _) _) _ _ _)); (first | walk1 | (dsimp only; walk1)); (try dsimp only)) | ((with_reducible show (Frag.In _ _ ∧ _)); walk1; (try dsimp only)) | ((with_reducible show ite _ _ _); walk1; (try dsimp only))))
          refine ⟨_, _, _, rfl, F8, N9, off, trivial, rfl, ?_⟩
          rw [filt_snoc, if_pos (by rw [hst, hd1])]
          exact hys.append (.cons _ _ .nil)
    · clear hR
      repeat (rename Fr _ _ _ _ => Fz; clear Fz)
      repeat (rename News _ _ _ _ => Nz; clear Nz)
      rintro ys news ⟨rfl, hys⟩
      intro D h tk F' N' off
      (repeat' (first | (k_unfold; (try dsimp only)) | ((with_reducible show wpAny _ _ _ _ _ _); (fail_if_success (with_reducible show wpAny _ _ (exec (Stmt.While _ _ _ _) _) _ _ _)); (fail_if_success (with_reducible show wpAny _ _ (exec (Stmt.For _ _ _ _ _) _) _ _ _)); (fail_if_success (with_reducible show wpAny _ _ (eval (Expr.ListComp _ _ _ _) _) _ _ _)); (fail_if_success (with_reducible show wpAny _ _ (exec (Stmt.Assign [_] (Expr.ListComp _ _ _ _) _) _) _ _ _)); (first | walk1 | (dsimp only; walk1)); (try dsimp only)) | ((with_reducible show (Frag.In _ _ ∧ _)); walk1; (try dsimp only)) | ((with_reducible show ite _ _ _); walk1; (try dsimp only))))
      have q := N' _ (List.Mem.head _)
      refine ret _ _ _ ys _ (kpF F') (gn _ q.2.2) q.1 ?_
      rw [standsL, if_neg c1]
      exact hys
end Mine

namespace Mine
open PySem PySem.W PyProof.Rows PySem.Calls PyProof.Rows.LCg PyProof.Rows.LCt
set_option maxRecDepth 100000
set_option linter.unusedVariables false
local macro_rules | `(tactic| walk_at "subscriptTail") => `(tactic| (k_here; (with_unfolding_all refine' my_item ?k1 ?k2 ?_ ?k4; (case k1 => exact News.get (by assumption) (by k_mem)); (case k4 => with_unfolding_all rfl); (case k2 => omega); k_whole)))
local macro_rules | `(tactic| walk_at "call builtin:len") => `(tactic| (k_here; (with_unfolding_all refine' my_len ?k1 ?k2 ?_; (case k1 => exact News.get (by assumption) (by k_mem)); (case k2 => omega); k_whole)))
inductive TupsAt (h : Heap) : List Value → List (Int × Int) → Prop
  | nil : TupsAt h [] []
  | cons {T : Addr} {x y : Int} {t u : Tok} {n : Nat} {vs : List Value} {ps : List (Int × Int)} : h.get? T = some (tup2 x y t u n) → TupsAt h vs ps → TupsAt h (.ref T :: vs) ((x, y) :: ps)
theorem TupsAt.mono {h h' : Heap} {vs : List Value} {ps : List (Int × Int)} (x : TupsAt h vs ps) (k : Kt h h') : TupsAt h' vs ps := by
  induction x with
  | nil => exact .nil
  | cons e _ ih => exact .cons (k _ _ _ _ rfl rfl e) ih
theorem TupsAt.snoc {h : Heap} {vs : List Value} {ps : List (Int × Int)} {T : Addr} {x y : Int} {t u : Tok} {n : Nat} (a : TupsAt h vs ps) (e : h.get? T = some (tup2 x y t u n)) : TupsAt h (vs ++ [.ref T]) (ps ++ [(x, y)]) := by
  induction a with
  | nil => exact .cons e .nil
  | cons e' _ ih => exact .cons e' ih
theorem TupsAt.length {h : Heap} {vs : List Value} {ps : List (Int × Int)} (a : TupsAt h vs ps) : vs.length = ps.length := by
  induction a with
  | nil => rfl
  | cons _ _ ih => simp [ih]

inductive TupsIn : List (Addr × Obj) → List Value → List (Int × Int) → Prop
  | nil : TupsIn [] [] []
  | snoc {T : List (Addr × Obj)} {vs : List Value} {ps : List (Int × Int)} {a : Addr} {x y : Int} {t u : Tok} {n : Nat} : TupsIn T vs ps → TupsIn ((a, tup2 x y t u n) :: T) (vs ++ [.ref a]) (ps ++ [(x, y)])
theorem TupsIn.tups {T : List (Addr × Obj)} {vs : List Value} {ps : List (Int × Int)} (a : TupsIn T vs ps) : ∀ p ∈ T, p.2.cls = .type "tuple" ∧ ∃ its n, p.2.data = .seq its n := by
  induction a with
  | nil => intro p hp; cases hp
  | snoc _ ih =>
    intro p hp
    rcases List.mem_cons.mp hp with rfl | hp
    · exact ⟨rfl, _, _, rfl⟩
    · exact ih p hp
theorem TupsIn.at_ {T : List (Addr × Obj)} {vs : List Value} {ps : List (Int × Int)} (a : TupsIn T vs ps) {h : Heap} (k : ∀ p ∈ T, h.get? p.1 = some p.2) : TupsAt h vs ps := by
  induction a with
  | nil => exact .nil
  | snoc _ ih => exact (ih fun p hp => k p (List.mem_cons_of_mem _ hp)).snoc (k _ (List.Mem.head _))
def JT (g : Heap) (L : Addr) (ys : List Value) (ps : List (Int × Int)) (h : Heap) : Prop := ∃ T, News g L h T ∧ TupsIn T ys ps
theorem JT.mono {g h h' : Heap} {L : Addr} {ys : List Value} {ps : List (Int × Int)} (x : JT g L ys ps h) (k : Kt h h') : JT g L ys ps h' := by
  obtain ⟨T, N, a⟩ := x
  refine ⟨T, fun p hp => ?_, a⟩
  obtain ⟨q1, its, n, q2⟩ := a.tups p hp
  exact ⟨k _ _ _ _ q1 q2 (N p hp).1, (N p hp).2⟩

noncomputable def rowL (css : List (List Int)) (h j : Nat) : List (Int × Int) := ((List.range j).filter fun n => (css.getD n []).any (· == (h : Int))).map fun n : Nat => ((h : Int), (n : Int))
noncomputable def ringsP (css : List (List Int)) (i j : Nat) : List (Int × Int) := ((List.range i).flatMap fun h => rowL css h css.length) ++ rowL css i j
theorem ringsP_next (css : List (List Int)) (i : Nat) : ringsP css i css.length = ringsP css (i + 1) 0 := by
  unfold ringsP
  rw [List.range_succ, List.flatMap_append]
  simp [rowL]
theorem rowL_succ (css : List (List Int)) (h j : Nat) : rowL css h (j + 1) = rowL css h j ++ (if (css.getD j []).any (· == (h : Int)) then [((h : Int), (j : Int))] else []) := by
  unfold rowL
  rw [List.range_succ, List.filter_append, List.map_append]
  congr 1
  simp only [List.filter_cons, List.filter_nil]
  split <;> rfl
theorem ringsP_succ (css : List (List Int)) (i j : Nat) : ringsP css i (j + 1) = ringsP css i j ++ (if (css.getD j []).any (· == (i : Int)) then [((i : Int), (j : Int))] else []) := by
  unfold ringsP
  rw [rowL_succ, List.append_assoc]

set_option maxHeartbeats 1000000 in
theorem rings_spec {w : World} {A : Around} {s : Shared} {H : Heap} {Q : Value → Shared → Prop} (G : Gnd w H) (KH : Kp [] H s.heap) (hA : Arnd A 12)
    {cl : Addr} {css : List (List Int)} (hc : ChainsAt s.heap cl css) (hn : css.length < 64)
    (ret : ∀ h' tk D ys c, Kp [] s.heap h' → s.heap.get? D = none → h'.get? D = some (W.listOf ys.toArray c) → TupsAt h' ys (ringsP css 12 0) → Q (.ref D) { s with heap := h', toks := tk }) :
    wpAny (model PG w) A (call (.ref 121) [.ref cl]) Q (fun _ _ => False) s := by
  obtain ⟨vs, cc, hcl, hlen, hsub⟩ := hc
  obtain ⟨p, loose, mean, mg, mb, T0⟩ := G.T
  have X0 := G.X
  have hd0 : PySem.Challenge.rw_in0189_01.foot = PySem.Challenge.rw_in0189_01.foot := rfl
  revert X0 hd0
  k_fill
  intro X0 _
  refine' enterC (binds := [("chains", .ref cl)]) [] G.X KH T0.nolimit ?hN ?hroom ?ho ?hcd ?hbind ?hkind ?hnd ?h ?hco ?hgen ?hk
  case ho => k_is
  case hN => intro p hp; cases hp
  case hroom => have := hA.dep; omega
  case hcd => k_is
  case hbind => exact BindsTo.of_eq rfl
  case hkind => exact rfl
  case hnd => decide +kernel
  case hco => exact rfl
  case hgen => exact rfl
  case hk => exact rfl
  intro g L' h₁ tk₁ cells hg Kg F N Y hlt
  k_cells Y
  try simp only [List.cons_append, List.nil_append] at N
  try dsimp only
  have X := X0.keeps fun b o e => Kg b o (by simp) e
  have T := T0.keeps fun b o e => Kg b o (by simp) e
  clear X0 T0
  try k_fold
  have e0 : ∀ b o, g.get? b = some o ↔ s.heap.get? b = some o := fun b o => (hg b o).trans ⟨fun e => e.2, fun e => ⟨by simp, e⟩⟩
  have hclg := (e0 _ _).mpr hcl
  rename_i o2 d2
  have d2 : o2.data = .cell (some (.ref cl)) := d2
  have kpF : ∀ {h' : Heap} {m' : Str → Option Value}, Fr g L' h' m' → Kp [] s.heap h' := fun F b o _ e => F.keep _ _ ((e0 _ _).mpr e)
  have gn : ∀ D, g.get? D = none → s.heap.get? D = none := fun D z => by
    cases q : s.heap.get? D with
    | none => rfl
    | some o => rw [(e0 _ _).mpr q] at z; cases z
  (repeat' (first | (k_unfold; (try dsimp only)) | ((with_reducible show wpAny _ _ _ _ _ _); (fail_if_success (with_reducible show wpAny _ _ (exec (Stmt.While _ _ _ _) _) _ _ _)); (fail_if_success (with_reducible show wpAny _ _ (exec (Stmt.For _ _ _ _ _) _) _ _ _)); (fail_if_success (with_reducible show wpAny _ _ (eval (Expr.ListComp _ _ _ _) _) _ _ _)); (fail_if_success (with_reducible show wpAny _ _ (exec (Stmt.Assign [_] (Expr.ListComp _ _ _ _) _) _) _ _ _)); (first | walk1 | (dsimp only; walk1)); (try dsimp only)) | ((with_reducible show (Frag.In _ _ ∧ _)); walk1; (try dsimp only)) | ((with_reducible show ite _ _ _); walk1; (try dsimp only))))
  rename Fr _ _ _ _ => F1
  rename News _ _ _ _ => N1
  refine' ListComp_2 (h₀ := g) (L := L') (n1 := 12) (n2 := css.length) (news := [(L' + 1, o2)]) (fun i j ys h => JT g L' ys (ringsP css i j) h) F1 hA.hh (by decide) (by omega) ?hclos ?hcell ?hkind ?hnames ?hx ?hy (by decide) ?stable ?next ?it1 ?inner ?turn ?fin
  case hclos => with_unfolding_all rfl
  case hcell => decide
  case hkind => rfl
  case hnames => decide
  case hx => rfl
  case hy => rfl
  case stable => intro i j ys h h' a k; exact a.mono k
  case next => intro i ys h a; rw [← ringsP_next]; exact a
  case it1 =>
    (repeat' (first | (k_unfold; (try dsimp only)) | ((with_reducible show wpAny _ _ _ _ _ _); (fail_if_success (with_reducible show wpAny _ _ (exec (Stmt.While _ _ _ _) _) _ _ _)); (fail_if_success (with_reducible show wpAny _ _ (exec (Stmt.For _ _ _ _ _) _) _ _ _)); (fail_if_success (with_reducible show wpAny _ _ (eval (Expr.ListComp _ _ _ _) _) _ _ _)); (fail_if_success (with_reducible show wpAny _ _ (exec (Stmt.Assign [_] (Expr.ListComp _ _ _ _) _) _) _ _ _)); (first | walk1 | (dsimp only; walk1)); (try dsimp only)) | ((with_reducible show (Frag.In _ _ ∧ _)); walk1; (try dsimp only)) | ((with_reducible show ite _ _ _); walk1; (try dsimp only))))
    rename IsRange _ _ _ _ _ _ _ _ => hR
    rename News _ _ _ _ => N2
    rename Fr _ _ _ _ => F2
    exact ⟨_, _, _, _, _, _, rfl, rfl, F2, N2, hR, [], (fun p hp => by cases hp), .nil⟩
  case inner =>
    clear F1 N1
    intro i I1 oI1 C oC D ys m₂ h tk E' hi a hC hx F N off ne
    (repeat' (first | (k_unfold; (try dsimp only)) | ((with_reducible show wpAny _ _ _ _ _ _); (fail_if_success (with_reducible show wpAny _ _ (exec (Stmt.While _ _ _ _) _) _ _ _)); (fail_if_success (with_reducible show wpAny _ _ (exec (Stmt.For _ _ _ _ _) _) _ _ _)); (fail_if_success (with_reducible show wpAny _ _ (eval (Expr.ListComp _ _ _ _) _) _ _ _)); (fail_if_success (with_reducible show wpAny _ _ (exec (Stmt.Assign [_] (Expr.ListComp _ _ _ _) _) _) _ _ _)); (first | walk1 | (dsimp only; walk1)); (try dsimp only)) | ((with_reducible show (Frag.In _ _ ∧ _)); walk1; (try dsimp only)) | ((with_reducible show ite _ _ _); walk1; (try dsimp only))))
    have es : vs.toArray.size = css.length := by simp [hlen]
    refine len_list (items := vs.toArray) ⟨_, F.keep _ _ hclg, rfl, _, rfl⟩ (by rw [es]; omega) ?_
    rw [es]
    (repeat' (first | (k_unfold; (try dsimp only)) | ((with_reducible show wpAny _ _ _ _ _ _); (fail_if_success (with_reducible show wpAny _ _ (exec (Stmt.While _ _ _ _) _) _ _ _)); (fail_if_success (with_reducible show wpAny _ _ (exec (Stmt.For _ _ _ _ _) _) _ _ _)); (fail_if_success (with_reducible show wpAny _ _ (eval (Expr.ListComp _ _ _ _) _) _ _ _)); (fail_if_success (with_reducible show wpAny _ _ (exec (Stmt.Assign [_] (Expr.ListComp _ _ _ _) _) _) _ _ _)); (first | walk1 | (dsimp only; walk1)); (try dsimp only)) | ((with_reducible show (Frag.In _ _ ∧ _)); walk1; (try dsimp only)) | ((with_reducible show ite _ _ _); walk1; (try dsimp only))))
    rename IsRange _ _ _ _ _ _ _ _ => hR
    rename News _ _ _ [_, _, _, _] => N2
    rename Fr _ _ _ _ => F2
    exact ⟨_, _, _, _, _, _, rfl, rfl, F2, N2, hR, a.mono (Kt.of_keep (by assumption))⟩
  case turn =>
    clear F1 N1
    rintro i j I2 oI2 I1 oI1 C oC D ys m₂ h tk E' hi hj a hC ⟨tx, hx⟩ ⟨ty, hy⟩ F N
    obtain ⟨cs, hcs⟩ : ∃ cs, css[j]? = some cs := ⟨css[j], by simp [hj]⟩
    obtain ⟨Dj, yj, cj, hv, hD, hints⟩ := hsub j cs hcs
    have hDg := (e0 _ _).mpr hD
    have ecs : css.getD j [] = cs := by rw [List.getD_eq_getElem?_getD, hcs]; rfl
    (repeat' (first | (k_unfold; (try dsimp only)) | ((with_reducible show wpAny _ _ _ _ _ _); (fail_if_success (with_reducible show wpAny _ _ (exec (Stmt.While _ _ _ _) _) _ _ _)); (fail_if_success (with_reducible show wpAny _ _ (exec (Stmt.For _ _ _ _ _) _) _ _ _)); (fail_if_success (with_reducible show wpAny _ _ (eval (Expr.ListComp _ _ _ _) _) _ _ _)); (fail_if_success (with_reducible show wpAny _ _ (exec (Stmt.Assign [_] (Expr.ListComp _ _ _ _) _) _) _ _ _)); (first | walk1 | (dsimp only; walk1)); (try dsimp only)) | ((with_reducible show (Frag.In _ _ ∧ _)); walk1; (try dsimp only)) | ((with_reducible show ite _ _ _); walk1; (try dsimp only))))
    refine item_list (items := vs.toArray) ⟨_, F.keep _ _ hclg, rfl, _, rfl⟩ (by omega) (by omega) (x := .ref Dj) (by
        rw [show ((0 : Int) + (j : Int)).toNat = j by omega, List.getElem?_toArray]; exact hv) ?_
    refine in_list_ints (vs := yj) (ns := cs) ⟨_, F.keep _ _ hDg, rfl, _, rfl⟩ hints ?_
    cases hc2 : cs.any fun x => x == (0 : Int) + (i : Int)
    · (repeat' (first | (k_unfold; (try dsimp only)) | ((with_reducible show wpAny _ _ _ _ _ _); (fail_if_success (with_reducible show wpAny _ _ (exec (Stmt.While _ _ _ _) _) _ _ _)); (fail_if_success (with_reducible show wpAny _ _ (exec (Stmt.For _ _ _ _ _) _) _ _ _)); (fail_if_success (with_reducible show wpAny _ _ (eval (Expr.ListComp _ _ _ _) _) _ _ _)); (fail_if_success (with_reducible show wpAny _ _ (exec (Stmt.Assign [_] (Expr.ListComp _ _ _ _) _) _) _ _ _)); (first | walk1 | (dsimp only; walk1)); (try dsimp only)) | ((with_reducible show (Frag.In _ _ ∧ _)); walk1; (try dsimp only)) | ((with_reducible show ite _ _ _); walk1; (try dsimp only))))
      refine ⟨_, _, rfl, F, N, ?_⟩
      have hc3 : (css.getD j []).any (· == (i : Int)) = false := by rw [ecs, ← hc2, Int.zero_add]
      rw [ringsP_succ, hc3]
      simpa using a
    · obtain ⟨T, NT, aT⟩ := a
      have N2 : News g L' h ((I2, oI2) :: (I1, oI1) :: (C, oC) :: (D, lst ys) :: (L' + 1, o2) :: T) := fun p hp => by
        rcases List.mem_append.mp (show p ∈ [(I2, oI2), (I1, oI1), (C, oC), (D, lst ys), (L' + 1, o2)] ++ T from hp) with q | q
        · exact N p q
        · exact NT p q
      clear N NT
      (repeat' (first | (k_unfold; (try dsimp only)) | ((with_reducible show wpAny _ _ _ _ _ _); (fail_if_success (with_reducible show wpAny _ _ (exec (Stmt.While _ _ _ _) _) _ _ _)); (fail_if_success (with_reducible show wpAny _ _ (exec (Stmt.For _ _ _ _ _) _) _ _ _)); (fail_if_success (with_reducible show wpAny _ _ (eval (Expr.ListComp _ _ _ _) _) _ _ _)); (fail_if_success (with_reducible show wpAny _ _ (exec (Stmt.Assign [_] (Expr.ListComp _ _ _ _) _) _) _ _ _)); (first | walk1 | (dsimp only; walk1)); (try dsimp only)) | ((with_reducible show (Frag.In _ _ ∧ _)); walk1; (try dsimp only)) | ((with_reducible show ite _ _ _); walk1; (try dsimp only))))
      rename News _ _ _ _ => N3
      rename Fr _ _ _ _ => F3
      have hc3 : (css.getD j []).any (· == (i : Int)) = true := by rw [ecs, ← hc2, Int.zero_add]
      refine ⟨_, _, rfl, F3, fun p hp => N3 p ?_, ?_⟩
      · refine List.Mem.tail _ ?_
        exact List.mem_append.mpr (show p ∈ [(I2, oI2), (I1, oI1), (C, oC), (D, lst ys), (L' + 1, o2)] ∨ p ∈ T from .inl hp)
      · rw [ringsP_succ, hc3]
        simp only [if_true]
        have q := N3 _ (List.Mem.head _)
        simp only [Int.zero_add] at q
        refine ⟨_ :: T, fun p hp => ?_, TupsIn.snoc (t := tx) (u := ty) (n := 0) aT⟩
        rcases List.mem_cons.mp hp with rfl | hp
        · exact q
        · exact N3 p (List.Mem.tail _ (List.mem_append.mpr (show p ∈ [(I2, oI2), (I1, oI1), (C, oC), (D, lst ys), (L' + 1, o2)] ∨ p ∈ T from .inr hp)))
  case fin =>
    clear F1 N1
    intro D ys h tk a F N
    (repeat' (first | (k_unfold; (try dsimp only)) | ((with_reducible show wpAny _ _ _ _ _ _); (fail_if_success (with_reducible show wpAny _ _ (exec (Stmt.While _ _ _ _) _) _ _ _)); (fail_if_success (with_reducible show wpAny _ _ (exec (Stmt.For _ _ _ _ _) _) _ _ _)); (fail_if_success (with_reducible show wpAny _ _ (eval (Expr.ListComp _ _ _ _) _) _ _ _)); (fail_if_success (with_reducible show wpAny _ _ (exec (Stmt.Assign [_] (Expr.ListComp _ _ _ _) _) _) _ _ _)); (first | walk1 | (dsimp only; walk1)); (try dsimp only)) | ((with_reducible show (Frag.In _ _ ∧ _)); walk1; (try dsimp only)) | ((with_reducible show ite _ _ _); walk1; (try dsimp only))))
    have q := N _ (List.Mem.head _)
    obtain ⟨T, NT, aT⟩ := a
    exact ret _ _ _ ys _ (kpF F) (gn _ q.2.2) q.1 (aT.at_ fun p hp => (NT p hp).1)
end Mine

namespace Mine
open PySem PySem.W PyProof.Rows PySem.Calls
set_option maxRecDepth 100000
set_option linter.unusedVariables false
theorem check_meth {M : Model} {A : Around} {E : Value → Shared → Prop} {s : Shared} {i owner n : String} {self : Value} {rest : List Value} {kw : List (Str × Value)} {Q : Unit → Shared → Prop}
    (hk : builtinKind i = some .method) (hs : splitId i = some (owner, n)) (hi : Looks M s.heap (isInstance self (.type owner)) true) (ha : argsOk i ⟨self :: rest, kw⟩) (q : Q () s) :
    wpAny M A (checkBuiltinCall i ⟨self :: rest, kw⟩) Q E s := by
  simp only [checkBuiltinCall, hk, hs]
  refine wpAny_bind (hi.here ?_)
  simp only [Bool.not_true, Bool.false_eq_true, if_false]
  cases hsig : Manifest.signature? i with
  | none => exact wpAny_pure q
  | some sig =>
    simp only [argsOk, hsig] at ha
    have h2 : Bind.checkArgs i sig ⟨self :: rest, kw⟩ = pure () := ha
    show wpAny M A (Bind.checkArgs i sig ⟨self :: rest, kw⟩) Q E s
    rw [h2]; exact wpAny_pure q

theorem slot_dd_getitem : Slot "collections.defaultdict" "__getitem__" "dict.__getitem__" := .of (owner := "dict") (n := "__getitem__") (by rw [typeLookup_type, builtinLookup_eq_fast]; kernel_rfl) (by decide +kernel) (by decide +kernel) (by decide +kernel)
  (by first | exact .inl (by decide +kernel) | exact .inr (by decide +kernel)) (by rw [isSubtype_type]; kernel_rfl)
theorem dgi_kind : builtinKind "dict.__getitem__" = some .method := by kernel_rfl
theorem dgi_split : splitId "dict.__getitem__" = some ("dict", "__getitem__") := by kernel_rfl
theorem dgi_args (a b : Value) : argsOk "dict.__getitem__" ⟨[a, b], []⟩ := by unfold argsOk; kernel_rfl
theorem dgi_entry : entryFor table "dict.__getitem__" = some Builtin.«dict.__getitem__» := entryFor_of_tree (by kernel_rfl)

theorem item_facts {w : World} {h : Heap} (X : (hd.heap_39 w.params).In h) : findIn (hd.heap_39 w.params) (.ref 58) "__getitem__" = some (some (.builtin "dict.__getitem__")) ∧
    findIn (hd.heap_39 w.params) (.ref 58) "__missing__" = some (some (.ref 48)) ∧ typeIn (hd.heap_39 w.params) (.ref 48) = some (.type "function") ∧
    Looks (model PG w) h (isSubtype (.ref 58) (.type "module")) false := by
  refine ⟨?_, ?_, ?_, ?_⟩
  · kernel_rfl
  · kernel_rfl
  · kernel_rfl
  · exact Looks.of_peek X (by kernel_rfl)

section
variable {w : World} {A : Around} {E : Value → Shared → Prop} {h : Heap} {g : Array GenState} {d : Drawn} {t : Nat} {os : OsState}

theorem keyArg_eq (x : Addr) (k : Int) (tk : Tok) : Builtin.Dict.keyArg "__getitem__" ⟨[.ref x, .int k tk], []⟩ = pure (x, .int k tk) := by kernel_rfl
theorem book_getItem {x dx : Addr} {l : List KV} {n : Nat} {od : Obj} {k : Int} {tk : Tok} {Q : Value → Shared → Prop} (X : (hd.heap_39 w.params).In h) (hx : h.get? x = some (bookObj dx (ents l) n)) (hdx : h.get? dx = some od) (hx1 : 58 < x)
    (hq : match bk l k with
      | some a => Q (.ref a) ⟨h, g, d, t + 1, os⟩
      | none => wpAny (model PG w) A.in1 (call (.ref 48) [.ref x, .int k tk]) Q E ⟨h, g, d, t + 1, os⟩) :
    wpAny (model PG w) A (getItem (.ref x) (.int k tk)) Q E ⟨h, g, d, t, os⟩ := by
  obtain ⟨⟨oc, odd, cd, sl, hC, e1, e2, e4⟩, made, base, self, top, isd, call, typ, hi, isdd, isod⟩ := cls_facts X
  obtain ⟨i1, i2, i3, i4⟩ := item_facts X
  have ta : Looks (model PG w) h (typeOf (.ref x)) (.ref 58) := (Looks.ld hx).andThen .now
  unfold getItem
  refine wpAny_holding ?_
  have sk : Looks (model PG w) h (sequenceKey (.ref x) (.int k tk) "__getitem__") (.int k tk) := by
    unfold sequenceKey
    refine ta.andThen ?_
    dsimp only
    have L : Looks (model PG w) h (seqItemTypes.anyM fun n => isSubtype (.ref 58) (.type n)) false := Looks.of_peek X (by kernel_rfl)
    refine L.andThen ?_
    rw [if_pos (by decide)]
    exact .now
  refine wpAny_bind (sk.at ?_)
  refine wpAny_bind ?_
  unfold callSpecial?
  have S1 : Looks (model PG w) h (specialOf (.ref x) "__getitem__") (some (.builtin "dict.__getitem__")) := by
    unfold specialOf
    exact ta.andThen (looks_findIn X i1)
  refine wpAny_bind (S1.at ?_)
  dsimp only
  refine wpAny_holding ?_
  refine wpAny_bind (wpAny_of_eq (slot_dd_getitem.bind _) ?_)
  dsimp only
  refine wpAny_bind (wpAny_call ?_)
  refine codeAny_call_builtin_code (Code.quiet_builtin _ (by decide +kernel)) ?_
  have isi : Looks (model PG w) h (isInstance (.ref x) (.type "dict")) true := ta.andThen isd
  refine @check_meth (model PG w) _ _ ⟨h, g, d, t, os⟩ "dict.__getitem__" "dict" "__getitem__" (.ref x) [.int k tk] [] _ dgi_kind dgi_split isi (dgi_args _ _) ?_
  refine codeAny_builtin dgi_entry ?_
  rw [Around.under_plainId (by decide +kernel) _]
  unfold Builtin.«dict.__getitem__»
  refine wpAny_bind (wpAny_of_eq (keyArg_eq x k tk) ?_)
  dsimp only
  refine wpAny_bind (bk_get hx ?_)
  cases hb : bk l k with
  | some a =>
    rw [hb] at hq
    exact wpAny_pure (wpAny_pure (wpAny_pure hq))
  | none =>
    rw [hb] at hq
    dsimp only at hq ⊢
    have nsys : ¬ (x == sysModules) = true := by
      simp only [beq_iff_eq]
      intro e; rw [e] at hx1; exact absurd hx1 (by decide)
    have L3 : Looks (model PG w) h (Builtin.Dict.missed x (.int k tk)) none := by
      unfold Builtin.Dict.missed
      rw [if_neg nsys]
      exact .now
    refine wpAny_bind (L3.at ?_)
    dsimp only
    refine wpAny_bind (ta.at ?_)
    rw [if_pos (by decide)]
    have I := inst_book hx hdx
    refine wpAny_bind (special_fn (K := hd.heap_39 w.params) (s := ⟨h, g, d, t + 1, os⟩) X I i2 i3 (wpAny_mono hq (fun v s' hv => ?_) fun _ _ z => z))
    exact wpAny_bind (wpAny_rule (wpAny_pure (wpAny_pure (wpAny_pure hv))))

theorem book_tail {value slice : Expr} {x dx : Addr} {l : List KV} {n : Nat} {od : Obj} {k : Int} {tk : Tok} {Q : Value → Shared → Prop} (X : (hd.heap_39 w.params).In h) (hx : h.get? x = some (bookObj dx (ents l) n)) (hdx : h.get? dx = some od) (hx1 : 58 < x)
    (hq : match bk l k with
      | some a => Q (.ref a) ⟨h, g, d, t + 1, os⟩
      | none => wpAny (model PG w) A.in1 (call (.ref 48) [.ref x, .int k tk]) Q E ⟨h, g, d, t + 1, os⟩)
    (hs : subscripted slice false (.ref x) (.int k tk) = operate [.ref x, .int k tk] (getItem (.ref x) (.int k tk)) := by with_unfolding_all rfl) :
    wpAny (model PG w) A (subscriptTail value slice (.ref x) (.int k tk)) Q E ⟨h, g, d, t, os⟩ := by
  obtain ⟨i1, i2, i3, i4⟩ := item_facts X
  have ta : Looks (model PG w) h (typeOf (.ref x)) (.ref 58) := (Looks.ld hx).andThen .now
  have S1 : Looks (model PG w) h (specialOf (.ref x) "__getitem__") (some (.builtin "dict.__getitem__")) := by
    unfold specialOf
    exact ta.andThen (looks_findIn X i1)
  unfold subscriptTail
  refine wpAny_bind ?_
  unfold getitemInPython
  refine wpAny_bind (S1.at (wpAny_pure ?_))
  refine wpAny_bind ?_
  rw [hs]
  refine wpAny_operating (book_getItem X hx hdx hx1 ?_)
  cases hb : bk l k with
  | some a =>
    rw [hb] at hq
    exact wpAny_bind (wpAny_letTemporaryGo (wpAny_pure hq))
  | none =>
    rw [hb] at hq
    exact wpAny_mono hq (fun r s₃ h₃ => wpAny_bind (wpAny_letTemporaryGo (wpAny_pure h₃))) fun _ _ x => x
end
end Mine

namespace Mine
open PySem PySem.W PyProof.Rows PySem.Calls
set_option maxRecDepth 100000
set_option linter.unusedVariables false
theorem more_facts {w : World} {h : Heap} (X : (hd.heap_39 w.params).In h) : findIn (hd.heap_39 w.params) (.ref 58) "__contains__" = some (some (.builtin "dict.__contains__")) ∧
    findIn (hd.heap_39 w.params) (.ref 58) "__iter__" = some (some (.builtin "dict.__iter__")) ∧ findIn (hd.heap_39 w.params) (.ref 58) "__len__" = some (some (.builtin "dict.__len__")) ∧
    findIn (hd.heap_39 w.params) (.ref 58) "freeze" = some (some (.ref 55)) ∧ typeIn (hd.heap_39 w.params) (.ref 55) = some (.type "function") := by
  refine ⟨?_, ?_, ?_, ?_, ?_⟩ <;> kernel_rfl
theorem slot_dd_contains : Slot "collections.defaultdict" "__contains__" "dict.__contains__" := .of (owner := "dict") (n := "__contains__") (by rw [typeLookup_type, builtinLookup_eq_fast]; kernel_rfl) (by decide +kernel) (by decide +kernel) (by decide +kernel)
  (by first | exact .inl (by decide +kernel) | exact .inr (by decide +kernel)) (by rw [isSubtype_type]; kernel_rfl)
theorem slot_dd_iter : Slot "collections.defaultdict" "__iter__" "dict.__iter__" := .of (owner := "dict") (n := "__iter__") (by rw [typeLookup_type, builtinLookup_eq_fast]; kernel_rfl) (by decide +kernel) (by decide +kernel) (by decide +kernel)
  (by first | exact .inl (by decide +kernel) | exact .inr (by decide +kernel)) (by rw [isSubtype_type]; kernel_rfl)
theorem slot_dd_len : Slot "collections.defaultdict" "__len__" "dict.__len__" := .of (owner := "dict") (n := "__len__") (by rw [typeLookup_type, builtinLookup_eq_fast]; kernel_rfl) (by decide +kernel) (by decide +kernel) (by decide +kernel)
  (by first | exact .inl (by decide +kernel) | exact .inr (by decide +kernel)) (by rw [isSubtype_type]; kernel_rfl)
theorem dc_kind : builtinKind "dict.__contains__" = some .method := by kernel_rfl
theorem di_kind : builtinKind "dict.__iter__" = some .slot := by kernel_rfl
theorem dl_kind : builtinKind "dict.__len__" = some .slot := by kernel_rfl
theorem dc_split : splitId "dict.__contains__" = some ("dict", "__contains__") := by kernel_rfl
theorem di_split : splitId "dict.__iter__" = some ("dict", "__iter__") := by kernel_rfl
theorem dl_split : splitId "dict.__len__" = some ("dict", "__len__") := by kernel_rfl

section
variable {w : World} {A : Around} {E : Value → Shared → Prop} {h : Heap} {g : Array GenState} {d : Drawn} {t : Nat} {os : OsState}

theorem book_call {id n : String} {b : Builtin} {args : List Value} {x dx : Addr} {es : List DictEntry} {nn : Nat} {Q : Value → Shared → Prop} (X : (hd.heap_39 w.params).In h) (hx : h.get? x = some (bookObj dx es nn))
    (hp : plainId id = true) (hk : builtinKind id = some .slot ∨ builtinKind id = some .method) (hs : splitId id = some ("dict", n)) (ha : argsOk id ⟨.ref x :: args, []⟩) (he : entryFor table id = some b)
    (hq : wpAny (model PG w) A.in1 (b ⟨.ref x :: args, []⟩) (fun fin s' => ∃ v, fin = .done (.ret v) ∧ Q v s') E ⟨h, g, d, t, os⟩) :
    wpAny (model PG w) A (call (.builtin id) (.ref x :: args)) Q E ⟨h, g, d, t, os⟩ := by
  obtain ⟨⟨oc, odd, cd, sl, hC, e1, e2, e4⟩, made, base, self, top, isd, call, typ, hi, isdd, isod⟩ := cls_facts X
  have ta : Looks (model PG w) h (typeOf (.ref x)) (.ref 58) := (Looks.ld hx).andThen .now
  have isi : Looks (model PG w) h (isInstance (.ref x) (.type "dict")) true := ta.andThen isd
  refine wpAny_call ?_
  refine codeAny_call_builtin_code (plainId_quiet hp _) ?_
  have fin : codeAny (model PG w) A (.builtin id ⟨.ref x :: args, []⟩) (fun r s' => match r with | .ok (.ret v) => Q v s' | .ok _ => False | .error e => E e s') ⟨h, g, d, t, os⟩ := by
    refine codeAny_builtin he ?_
    rw [Around.under_plainId hp _]
    refine wpAny_mono hq (fun fin s' z => ?_) fun _ _ z => z
    obtain ⟨v, rfl, hv⟩ := z
    exact hv
  rcases hk with hk | hk
  · exact @check_slot (model PG w) _ _ ⟨h, g, d, t, os⟩ id "dict" n (.ref x) args [] _ hk hs isi ha fin
  · exact @check_meth (model PG w) _ _ ⟨h, g, d, t, os⟩ id "dict" n (.ref x) args [] _ hk hs isi ha fin

theorem keyArg_eq2 (x : Addr) (k : Int) (tk : Tok) : Builtin.Dict.keyArg "__contains__" ⟨[.ref x, .int k tk], []⟩ = pure (x, .int k tk) := by kernel_rfl

theorem book_in {x dx : Addr} {l : List KV} {n : Nat} {k : Int} {tk : Tok} {Q : Value → Shared → Prop} (X : (hd.heap_39 w.params).In h) (hx : h.get? x = some (bookObj dx (ents l) n)) (hx1 : 58 < x)
    (hq : Q (.bool (bk l k).isSome) ⟨h, g, d, t + 1, os⟩) : wpAny (model PG w) A (compareOp .In (.int k tk) (.ref x)) Q E ⟨h, g, d, t, os⟩ := by
  obtain ⟨i1, i2, i3, i4, i5⟩ := more_facts X
  have ta : Looks (model PG w) h (typeOf (.ref x)) (.ref 58) := (Looks.ld hx).andThen .now
  have S1 : Looks (model PG w) h (specialOf (.ref x) "__contains__") (some (.builtin "dict.__contains__")) := by
    unfold specialOf
    exact ta.andThen (looks_findIn X i1)
  have nsys : (x == sysModules) = false := by
    simp only [beq_eq_false_iff_ne]
    intro e; rw [e] at hx1; exact absurd hx1 (by decide)
  show wpAny _ _ (do return .bool (← contains (.ref x) (.int k tk))) Q E _
  refine wpAny_bind ?_
  unfold contains
  refine wpAny_holding ?_
  refine wpAny_bind (S1.at ?_)
  rw [if_neg (by decide)]
  unfold callSpecialUnlessNone?
  refine wpAny_bind (wpAny_bind (S1.at ?_))
  dsimp only
  refine wpAny_holding (wpAny_bind (wpAny_of_eq (slot_dd_contains.bind _) ?_))
  dsimp only
  rw [if_neg (by decide)]
  refine wpAny_bind (book_call (args := [.int k tk]) X hx PySem.F.slot_dict_contains.plain (.inr dc_kind) dc_split (PySem.F.args_dict_contains_2 _ _) PySem.F.entry_dict_contains ?_)
  unfold Builtin.«dict.__contains__»
  rw [keyArg_eq2]
  refine wpAny_bind (wpAny_pure ?_)
  dsimp only
  refine wpAny_bind (bk_get hx ?_)
  cases hb : bk l k with
  | some a =>
    rw [hb] at hq
    refine wpAny_pure ⟨_, rfl, ?_⟩
    exact wpAny_pure (wpAny_truthy_bool (wpAny_pure hq))
  | none =>
    rw [hb] at hq
    dsimp only [Option.map_none, Option.isSome_none]
    rw [if_neg (by decide)]
    refine wpAny_bind (wpAny_pendingKey_other nsys ?_)
    refine wpAny_pure ⟨_, rfl, ?_⟩
    exact wpAny_pure (wpAny_truthy_bool (wpAny_pure hq))

theorem book_len {x dx : Addr} {l : List KV} {n : Nat} {Q : Value → Shared → Prop} (X : (hd.heap_39 w.params).In h) (hx : h.get? x = some (bookObj dx (ents l) n)) (hx1 : 58 < x) (hl : l.length < 2 ^ 20)
    (hq : ∀ t', Q (.int l.length t') ⟨h, g, d, t + 2, os⟩) : wpAny (model PG w) A (call (.builtin "len") [.ref x]) Q E ⟨h, g, d, t, os⟩ := by
  obtain ⟨i1, i2, i3, i4, i5⟩ := more_facts X
  have ta : Looks (model PG w) h (typeOf (.ref x)) (.ref 58) := (Looks.ld hx).andThen .now
  have S1 : Looks (model PG w) h (specialOf (.ref x) "__len__") (some (.builtin "dict.__len__")) := by
    unfold specialOf
    exact ta.andThen (looks_findIn X i3)
  have nsys : (x == sysModules) = false := by
    simp only [beq_eq_false_iff_ne]
    intro e; rw [e] at hx1; exact absurd hx1 (by decide)
  refine Calls.call_function_entry kind_len plain_len entry_len (args_len1 _) ?_
  unfold Builtin.«len»
  refine wpAny_bind (m := oneArg "len" _) (wpAny_pure ?_)
  refine wpAny_bind ?_
  unfold callSpecial?
  refine wpAny_bind (S1.at ?_)
  dsimp only
  refine wpAny_holding (wpAny_bind (wpAny_of_eq (slot_dd_len.bind _) ?_))
  dsimp only
  refine wpAny_bind (book_call (args := []) X hx PySem.F.slot_dict_len.plain (.inl dl_kind) dl_split (PySem.F.args_dict_len_1 _) PySem.F.entry_dict_len ?_)
  show wpAny _ _ (dictSize x >>= _) _ _ _
  unfold dictSize
  refine wpAny_bind (wpAny_bind (wpAny_dictEntries (o := bookObj dx (ents l) n) hx rfl (wpAny_pure ?_)))
  show wpAny _ _ (Builtin.Dict.pendingCount x >>= _) _ _ _
  refine wpAny_bind (wpAny_pendingCount_other nsys ?_)
  refine wpAny_ret_mkInt ?_
  have e : (ents l).toArray.size = l.length := by simp [ents]
  rw [e]
  refine wpAny_pure ?_
  refine wpAny_bind (wpAny_holding (wpAny_pure ?_))
  refine wpAny_bind (wpAny_letGo ?_)
  show wpAny _ _ (if ((l.length : Nat) : Int) < 0 then _ else _) _ _ _
  rw [if_neg (by omega)]
  show wpAny _ _ (if ((l.length : Nat) : Int) ≥ 2 ^ 63 then _ else _) _ _ _
  rw [if_neg (by omega)]
  exact wpAny_bind (wpAny_mkInt (wpAny_pure ⟨_, rfl, hq _⟩))
end
end Mine

namespace Mine
open PySem PySem.W PyProof.Rows PySem.Calls
set_option maxRecDepth 100000
set_option linter.unusedVariables false
section
variable {w : World} {A : Around} {E : Value → Shared → Prop} {h : Heap} {g : Array GenState} {d : Drawn} {t : Nat} {os : OsState}

theorem book_hint {x dx : Addr} {l : List KV} {n : Nat} {Q : Bool → Shared → Prop} (X : (hd.heap_39 w.params).In h) (hx : h.get? x = some (bookObj dx (ents l) n)) (hx1 : 58 < x) (hl : l.length < 2 ^ 20)
    (hq : ∀ b, Q b ⟨h, g, d, t + 2, os⟩) : wpAny (model PG w) A (Builtin.List.listLengthHint (.ref x)) Q E ⟨h, g, d, t, os⟩ := by
  obtain ⟨i1, i2, i3, i4, i5⟩ := more_facts X
  obtain ⟨⟨oc, odd, cd, sl, hC, e1, e2, e4⟩, made, base, self, top, isd, call, typ, hi, isdd, isod⟩ := cls_facts X
  have ta : Looks (model PG w) h (typeOf (.ref x)) (.ref 58) := (Looks.ld hx).andThen .now
  have isi : Looks (model PG w) h (isInstance (.ref x) (.type "dict")) true := ta.andThen isd
  have S1 : Looks (model PG w) h (specialOf (.ref x) "__len__") (some (.builtin "dict.__len__")) := by
    unfold specialOf
    exact ta.andThen (looks_findIn X i3)
  unfold Builtin.List.listLengthHint
  refine wpAny_bind (S1.at ?_)
  dsimp only
  rw [dl_split]
  dsimp only
  refine wpAny_bind (isi.at ?_)
  rw [if_neg (by decide)]
  refine wpAny_ite_split (fun _ => ?_) (fun hab => absurd (by decide +kernel) hab)
  refine wpAny_bind (ta.at ?_)
  dsimp only
  refine wpAny_bind (book_len X hx hx1 hl fun t' => ?_)
  exact wpAny_pure (hq _)

theorem book_iter {x dx : Addr} {l : List KV} {n : Nat} {Q : Value → Shared → Prop} (X : (hd.heap_39 w.params).In h) (hx : h.get? x = some (bookObj dx (ents l) n)) (hx1 : 58 < x)
    (hq : Q (.ref h.objs.size) ⟨h.push { cls := .type "dict_keyiterator", data := .fields #[.ref x, .int 0 0, .int l.length 0, .int n 0] }, g, d, t, os⟩) : wpAny (model PG w) A (pyIter (.ref x)) Q E ⟨h, g, d, t, os⟩ := by
  obtain ⟨i1, i2, i3, i4, i5⟩ := more_facts X
  obtain ⟨⟨oc, odd, cd, sl, hC, e1, e2, e4⟩, made, base, self, top, isd, call, typ, hi, isdd, isod⟩ := cls_facts X
  have ta : Looks (model PG w) h (typeOf (.ref x)) (.ref 58) := (Looks.ld hx).andThen .now
  have nsys : ¬ (x == sysModules) = true := by
    simp only [beq_iff_eq]
    intro e; rw [e] at hx1; exact absurd hx1 (by decide)
  have S1 : Looks (model PG w) h (specialOf (.ref x) "__iter__") (some (.builtin "dict.__iter__")) := by
    unfold specialOf
    exact ta.andThen (looks_findIn X i2)
  unfold pyIter
  refine wpAny_bind (S1.at ?_)
  dsimp only
  refine wpAny_bind ?_
  unfold callSpecialIfBoundUnlessNone? bindSpecialIfBound?
  refine wpAny_holding (wpAny_bind (wpAny_bind (S1.at ?_)))
  simp only [slot_dd_iter.bind]
  have fin : ∀ {rf : Sem Value}, wpAny (model PG w) A (if (Value.builtin "dict.__iter__" == Value.none) = true then (rf >>= fun v => pure (some v)) else (PySem.call (.builtin "dict.__iter__") [.ref x] >>= fun v => pure (some v)))
      (fun r s' => match r with | some it => ∃ o, s'.heap.get? h.objs.size = some o ∧ o.cls = .type "dict_keyiterator" ∧ it = .ref h.objs.size ∧ Q it s' | none => False) E ⟨h, g, d, t, os⟩ := by
    intro rf
    simp only [builtin_beq_none, Bool.false_eq_true, if_false]
    refine wpAny_bind (book_call (args := []) X hx PySem.F.slot_dict_iter.plain (.inl di_kind) di_split (PySem.F.args_dict_iter_1 _) PySem.F.entry_dict_iter ?_)
    unfold Builtin.«dict.__iter__»
    have L1 : Looks (model PG w) h (Builtin.Dict.dictSlotNone "__iter__" ⟨[.ref x], []⟩) (.ref x) := by
      unfold Builtin.Dict.dictSlotNone
      refine Looks.andThen (a := ()) ?_ ?_
      · unfold Builtin.Dict.notOrdered
        rw [if_pos (by decide)]
        refine ta.andThen ?_
        rw [if_pos (by decide)]
        exact (ta.andThen isod).andThen (Looks.of_pure rfl)
      · exact Looks.of_pure (by rfl)
    refine wpAny_bind (L1.at ?_)
    show wpAny _ _ (Builtin.Dict.showsAll x >>= _) _ _ _
    unfold Builtin.Dict.showsAll
    rw [if_neg nsys]
    refine wpAny_bind (wpAny_pure ?_)
    refine wpAny_bind (wpAny_dictEntries (o := bookObj dx (ents l) n) hx rfl ?_)
    refine wpAny_bind (wpAny_dictEpoch (o := bookObj dx (ents l) n) hx rfl ?_)
    refine wpAny_bind (wpAny_newObj_type (wpAny_pure ⟨_, rfl, ?_⟩))
    refine wpAny_pure ⟨_, Heap.get?_push_size _ rfl, rfl, rfl, ?_⟩
    have e : (ents l).toArray.size = l.length := by simp [ents]
    simpa [rawInt, e] using hq
  refine wpAny_bind (wpAny_askSetting (wpAny_ite ?_))
  have tail : ∀ (r : Option Value) (s' : Shared), (match r with | some it => ∃ o, s'.heap.get? h.objs.size = some o ∧ o.cls = .type "dict_keyiterator" ∧ it = .ref h.objs.size ∧ Q it s' | none => False) →
      wpAny (model PG w) A (match r with
        | some it => do
          match ← specialOf it "__next__" with
          | none => rule "iter.non-iterator"; raiseError "TypeError" s!"iter() returned non-iterator of type '{← PySem.typeNameOf it}'"
          | some _ => pure it
        | none => do
          match ← bindSpecialIfBound? (.ref x) "__getitem__" with
          | none => rule "iter.not-iterable"; raiseError "TypeError" s!"'{← PySem.typeNameOf (.ref x)}' object is not iterable"
          | some _ => rule "iter.getitem-fallback"; newFields "iterator" [.ref x, ← mkInt 0]) Q E s' := by
    intro r s' hr
    cases r with
    | none => exact hr.elim
    | some it =>
      obtain ⟨o, ho, hc, rfl, hQ⟩ := hr
      exact wpAny_bind (wpAny_specialOf (T := "dict_keyiterator") ⟨_, ho, hc⟩ PySem.F.slot_dict_keyiterator_next.lookup (wpAny_pure hQ))
  split
  · exact wpAny_bind (wpAny_pure (wpAny_pure (wpAny_mono fin tail fun _ _ z => z)))
  · exact wpAny_tryCatch (wpAny_bind (wpAny_pure (wpAny_pure (wpAny_mono fin tail fun _ _ z => z))))
end
end Mine

namespace Mine
open PySem PySem.W PyProof.Rows PySem.Calls
set_option maxRecDepth 100000
set_option linter.unusedVariables false
section
variable {w : World} {A : Around} {E : Value → Shared → Prop} {s : Shared}

theorem bookNext_item {it x dx : Addr} {i n : Nat} {l : List KV} {y : KV} {Q : Option Value → Shared → Prop} (hit : s.heap.IsKeyIter it x i l.length n)
    (hx : s.heap.get? x = some (bookObj dx (ents l) n)) (hy : l[i]? = some y)
    (hQ : ∀ h', h'.IsKeyIter it x (i + 1) l.length n → Heap.SameBut it s.heap h' → Q (some (.int y.1 y.2.1)) { s with heap := h' }) :
    wpAny (model PG w) A (pyNext (.ref it)) Q E s := by
  obtain ⟨o, ho, hc, hd⟩ := id hit
  have hsz : (ents l).toArray.size = l.length := by simp [ents]
  unfold pyNext
  refine wpAny_bind (wpAny_attempt (wpAny_callSpecial?_slot (name := Str.ofString "__next__") hit.typeIs PySem.F.slot_dict_keyiterator_next
    (wpAny_call_entry PySem.F.slot_dict_keyiterator_next hit.typeIs PySem.F.entry_dict_keyiterator_next ?_ (PySem.F.args_dict_keyiterator_next_1 _))))
  refine wpAny_bind (wpAny_pure ?_)
  refine wpAny_bind ?_
  refine wpAny_bind ?_
  first | refine wpAny_bind (wpAny_typeNameOfWhole_keyiter hit.typeIs (wpAny_pure ?_)) | refine wpAny_bind (wpAny_typeNameOf_keyiter hit.typeIs (wpAny_pure ?_))
  refine wpAny_bind (wpAny_fieldsOf ho hd ?_)
  have hown : Builtin.Dict_items.ownsTuple "dict_keyiterator" = false := by decide
  simp only [hown, Bool.false_eq_true, if_false]
  show wpAny _ _ (if (Value.ref x == Value.none) = true then _ else _) _ _ s
  rw [if_neg (show ¬ ((Value.ref x == Value.none) = true) from Bool.false_ne_true)]
  refine wpAny_bind (wpAny_pure ?_)
  refine wpAny_bind (wpAny_dictEntries (o := bookObj dx (ents l) n) hx rfl ?_)
  rw [if_neg (by rw [hsz]; simp)]
  refine wpAny_bind (wpAny_pure ?_)
  refine wpAny_bind (wpAny_dictEpoch (o := bookObj dx (ents l) n) hx rfl ?_)
  rw [if_neg (by simp)]
  refine wpAny_pure ?_
  have hlt : i < l.length := (List.getElem?_eq_some_iff.mp hy).1
  have hlt' : i < (ents l).toArray.size := by rw [hsz]; exact hlt
  have hkey : (ents l).toArray[i].key = .int y.1 y.2.1 := by
    have e1 : l[i] = y := (List.getElem?_eq_some_iff.mp hy).2
    simp [ents, ent, e1]
  simp only [show ¬ ((i : Int) < 0) from by omega, if_false, Int.toNat_natCast, Array.getElem?_eq_getElem hlt']
  refine wpAny_bind ?_
  first | refine wpAny_bind (wpAny_typeNameOfWhole_keyiter hit.typeIs (wpAny_pure ?_)) | refine wpAny_bind (wpAny_typeNameOf_keyiter hit.typeIs (wpAny_pure ?_))
  refine wpAny_bind (wpAny_isOneOf_keyiter hit.typeIs ?_)
  show wpAny _ _ (setField (.ref it) 1 (rawInt ((i : Int) + 1)) >>= _) _ _ s
  refine wpAny_bind (wpAny_setField ho hd (by simp) ?_)
  have hit' : (s.heap.update it (Obj.mapFields (·.setIfInBounds 1 (rawInt ((i : Int) + 1))))).IsKeyIter it x (i + 1) l.length n :=
    ⟨_, Heap.get?_update_self _ ho (Obj.isFreed_of_fields (Obj.data_mapFields hd _)), (Obj.cls_mapFields ..).trans hc, by rw [Obj.data_mapFields hd]; simp [rawInt]⟩
  refine wpAny_bind (wpAny_holding ?_)
  refine wpAny_bind (wpAny_isOneOf_keyiter (s := { s with heap := s.heap.update it (Obj.mapFields (·.setIfInBounds 1 (rawInt ((i : Int) + 1)))) }) hit'.typeIs ?_)
  show wpAny _ _ (pure (ents l).toArray[i].key) _ _ _
  rw [hkey]
  exact wpAny_pure (wpAny_pure ⟨_, rfl, wpAny_pure (hQ _ hit' (Heap.SameBut.update ..))⟩)

theorem bookNext_end {it x dx : Addr} {i n : Nat} {l : List KV} {Q : Option Value → Shared → Prop} (hh : A.handled = none) (hit : s.heap.IsKeyIter it x i l.length n)
    (hx : s.heap.get? x = some (bookObj dx (ents l) n)) (hy : l[i]? = none)
    (hQ : ∀ h', Heap.ExtBut it s.heap h' → Q none { s with heap := h' }) : wpAny (model PG w) A (pyNext (.ref it)) Q E s := by
  obtain ⟨o, ho, hc, hd⟩ := id hit
  have hsz : (ents l).toArray.size = l.length := by simp [ents]
  unfold pyNext
  refine wpAny_bind (wpAny_attempt (wpAny_callSpecial?_slot (name := Str.ofString "__next__") hit.typeIs PySem.F.slot_dict_keyiterator_next
    (wpAny_call_entry PySem.F.slot_dict_keyiterator_next hit.typeIs PySem.F.entry_dict_keyiterator_next ?_ (PySem.F.args_dict_keyiterator_next_1 _))))
  refine wpAny_bind (wpAny_pure ?_)
  refine wpAny_bind ?_
  refine wpAny_bind ?_
  first | refine wpAny_bind (wpAny_typeNameOfWhole_keyiter hit.typeIs (wpAny_pure ?_)) | refine wpAny_bind (wpAny_typeNameOf_keyiter hit.typeIs (wpAny_pure ?_))
  refine wpAny_bind (wpAny_fieldsOf ho hd ?_)
  have hown : Builtin.Dict_items.ownsTuple "dict_keyiterator" = false := by decide
  simp only [hown, Bool.false_eq_true, if_false]
  show wpAny _ _ (if (Value.ref x == Value.none) = true then _ else _) _ _ s
  rw [if_neg (show ¬ ((Value.ref x == Value.none) = true) from Bool.false_ne_true)]
  refine wpAny_bind (wpAny_pure ?_)
  refine wpAny_bind (wpAny_dictEntries (o := bookObj dx (ents l) n) hx rfl ?_)
  rw [if_neg (by rw [hsz]; simp)]
  refine wpAny_bind (wpAny_pure ?_)
  refine wpAny_bind (wpAny_dictEpoch (o := bookObj dx (ents l) n) hx rfl ?_)
  rw [if_neg (by simp)]
  refine wpAny_pure ?_
  have hge : (ents l).toArray.size ≤ i := by rw [hsz]; simpa using hy
  simp only [show ¬ ((i : Int) < 0) from by omega, if_false, Int.toNat_natCast, Array.getElem?_eq_none hge]
  refine wpAny_bind ?_
  first | refine wpAny_bind (wpAny_typeNameOfWhole_keyiter hit.typeIs (wpAny_pure ?_)) | refine wpAny_bind (wpAny_typeNameOf_keyiter hit.typeIs (wpAny_pure ?_))
  show wpAny _ _ (setField (.ref it) 0 .none >>= _) _ _ s
  refine wpAny_bind (wpAny_setField ho hd (by simp) ?_)
  show wpAny _ _ (newExc (.type "StopIteration") [] >>= _) _ _ _
  refine wpAny_bind ?_
  simp only [newExc, newTuple]
  refine wpAny_bind (wpAny_newObj_type ?_ (by size_fits))
  refine wpAny_bind (m := firstArgMember _ _) (wpAny_of_eq (a := Value.none) (by first | rfl | (simp only [firstArgMember]; rfl)) ?_)
  refine wpAny_newObj_type ?_ (by size_fits)
  simp only [raiseNew]
  refine wpAny_bind (wpAny_handled ?_)
  rw [show A.in1.handled = none from hh]
  refine wpAny_bind (wpAny_pure (wpAny_throw ?_))
  refine wpAny_bind (wpAny_isInstance (T := "StopIteration") (b := true) ⟨_, Heap.get?_push_size _ rfl, rfl⟩ isSubtype_stop ?_)
  exact wpAny_pure (hQ _ (((Heap.SameBut.update ..).extBut.push _).push _))

theorem bookWalks (hh : A.handled = none) (I x dx : Addr) (hne : x ≠ I) (l : List KV) (n : Nat) :
    Walks PG w A I [I, x] [I] l.length (fun i v => ∃ y, l[i]? = some y ∧ v = .int y.1 y.2.1) (fun i h => h.IsKeyIter I x i l.length n ∧ h.get? x = some (bookObj dx (ents l) n)) where
  sub := fun b hb => by simp at hb; simp [hb]
  frame := fun _ _ _ st hk => ⟨st.1.at fun o e => hk I (by simp) o e, hk x (by simp) _ st.2⟩
  item := fun i s Q E hi st hQ => by
    obtain ⟨y, hy⟩ : ∃ p, l[i]? = some p := ⟨l[i], by simp [hi]⟩
    refine bookNext_item st.1 st.2 hy fun h' hit' hs' => ?_
    exact hQ _ h' s.toks ⟨y, hy, rfl⟩ ⟨hit', (hs'.2 x hne).trans st.2⟩ fun b o hb e => hs'.extBut b o (fun h => hb (by simp [h])) e
  done := fun s Q E st hQ => bookNext_end hh st.1 st.2 (by simp) fun h' he' => hQ h' s.toks fun b o hb e => he' b o (fun h => hb (by simp [h])) e
  self := fun _ _ _ _ st hQ => wpAny_pyIter_keyiter st.1 hQ
end
end Mine

namespace Mine
open PySem PySem.W PyProof.Rows PySem.Calls
set_option maxRecDepth 100000
set_option linter.unusedVariables false
section
variable {w : World} {A : Around} {E : Value → Shared → Prop}

theorem book_extend {h : Heap} {g : Array GenState} {d : Drawn} {t : Nat} {os : OsState} {R : Result → Shared → Prop} {x dx : Addr} {l : List KV} {n : Nat} (X : (hd.heap_39 w.params).In h) (hx : h.get? x = some (bookObj dx (ents l) n)) (hx1 : 58 < x) (hl : l.length ≤ 1000) (hh : A.handled = none)
    (S : Addr) (hSx : S ≠ x) (hSX : ∀ b o, (hd.heap_39 w.params).lookup b = some o → b ≠ S) (c₀ : Nat) (hS : h.get? S = some { cls := .type "list", data := .seq #[] c₀ })
    (hR : ∀ h' tk acc' c', (∀ b o, b ≠ S → h.get? b = some o → h'.get? b = some o) → h'.get? S = some { cls := .type "list", dict := none, data := .seq acc' c', slots := #[] } → ItemsOf (fun i v => ∃ y, l[i]? = some y ∧ v = .int y.1 y.2.1) acc' l.length → R (.ok (.ret .none)) ⟨h', g, d, tk, os⟩) :
    wpAny (model PG w) A.in1 (Builtin.List.listExtendWith (.ref S) (.ref x) .none)
      (fun fin s' => match fin with | .done f => R (.ok f) s' | .again c' => c'.quiet = true ∧ codeAny (model PG w) A c' R s') (fun e s' => R (.error e) s') ⟨h, g, d, t, os⟩ := by
  have ta : Looks (model PG w) h (typeOf (.ref x)) (.ref 58) := (Looks.ld hx).andThen .now
  have hSI : S ≠ h.objs.size := Nat.ne_of_lt (Heap.lt_size hS)
  have hSf : S ∉ [h.objs.size, x] := by simp only [List.mem_cons, List.not_mem_nil, or_false, not_or]; exact ⟨hSI, hSx⟩
  have W := bookWalks (w := w) (A := A.in1) hh h.objs.size x dx (Nat.ne_of_lt (Heap.lt_size hx)) l n
  have hn : l.length ≤ sizeLine := by rw [sizeLine_eq]; omega
  have key : ∀ (h1 : Heap) (c₁ tk : Nat), (h1.IsKeyIter h.objs.size x 0 l.length n ∧ h1.get? x = some (bookObj dx (ents l) n)) → (∀ b o, b ≠ S → h.get? b = some o → h1.get? b = some o) →
      h1.get? S = some { cls := .type "list", data := .seq #[] c₁ } → codeAny (model PG w) A (.builtin "list.extend.loop" ⟨[.ref S, .ref h.objs.size, .none], []⟩) R ⟨h1, g, d, tk, os⟩ := by
    intro h1 c₁ tk hst hk hS₁
    refine codeAny_extend_loopS W.toS hn S hSf .none l.length 0 _ #[] c₁ rfl (Nat.zero_le _) hst hS₁ (ItemsOf.nil _) fun s' acc' c' hm hS' hacc => ?_
    rw [Moved.eq_with hm]
    refine hR s'.heap s'.toks acc' c' (fun b o hb e => hm.heap b o (fun hmem => ?_) (hk b o hb e)) hS' hacc
    rcases List.mem_cons.mp hmem with e' | hmem
    · exact hb e'
    · exact absurd (Heap.lt_size e) (by rw [List.mem_singleton.mp hmem]; exact Nat.lt_irrefl _)
  unfold Builtin.List.listExtendWith
  refine wpAny_bind (ta.at ?_)
  have h1 : Builtin.List.listSameRef (.ref S) (.ref x) = false := by simp [Builtin.List.listSameRef, hSx]
  simp only [h1, show (Value.ref 58 == Value.type "list") = false by decide, show (Value.ref 58 == Value.type "tuple") = false by decide, Bool.or_false, Bool.false_eq_true, if_false]
  have st : (h.push { cls := .type "dict_keyiterator", data := .fields #[.ref x, .int 0 0, .int l.length 0, .int n 0] }).IsKeyIter h.objs.size x 0 l.length n := ⟨_, Heap.get?_push_size _ rfl, rfl, rfl⟩
  refine wpAny_bind (book_iter X hx hx1 ?_)
  have hS₁ := Heap.get?_push_of_some { cls := .type "dict_keyiterator", data := .fields #[.ref x, .int 0 0, .int l.length 0, .int n 0] } hS
  have hx₁ := Heap.get?_push_of_some { cls := .type "dict_keyiterator", data := .fields #[.ref x, .int 0 0, .int l.length 0, .int n 0] } hx
  have k₁ : ∀ b o, h.get? b = some o → (h.push { cls := .type "dict_keyiterator", data := .fields #[.ref x, .int 0 0, .int l.length 0, .int n 0] }).get? b = some o := fun b o e => Heap.get?_push_of_some _ e
  have X₁ := X.keeps k₁
  generalize h.push { cls := .type "dict_keyiterator", data := .fields #[.ref x, .int 0 0, .int l.length 0, .int n 0] } = hp at st hS₁ hx₁ k₁ X₁ ⊢
  refine wpAny_bind (wpAny_holding (book_hint X₁ hx₁ hx1 (by omega) fun b => ?_))
  refine wpAny_ite_split (fun _ => ?_) (fun _ => wpAny_pure ⟨plainId_quiet PySem.F.plain_extend_loop _, key _ c₀ _ ⟨st, hx₁⟩ (fun b o _ e => k₁ _ _ e) hS₁⟩)
  refine wpAny_bind (wpAny_rule ?_)
  refine wpAny_bind ?_
  show wpAny _ _ (updateSeq S (·.push .none) >>= fun _ => updateSeq S (·.pop)) _ _ _
  refine wpAny_bind (wpAny_updateSeq hS₁ rfl ?_)
  have hS₂ := Heap.get?_update_self (Obj.mapSeq (·.push Value.none)) hS₁ rfl
  refine wpAny_updateSeq (hz := by seq_fits) hS₂ rfl ?_
  have hS₃ := Heap.get?_update_self (Obj.mapSeq (·.pop)) hS₂ rfl
  refine wpAny_pure ⟨plainId_quiet PySem.F.plain_extend_loop _, key _ _ _ ?_ (fun b o hb e => ?_) hS₃⟩
  · refine W.frame 0 _ _ ⟨st, hx₁⟩ fun b hb o e => ?_
    have hbS : b ≠ S := fun h => hSf (h ▸ hb)
    exact (Heap.get?_update_other _ _ (Ne.symm hbS)).trans ((Heap.get?_update_other _ _ (Ne.symm hbS)).trans e)
  · exact (Heap.get?_update_other _ _ (Ne.symm hb)).trans ((Heap.get?_update_other _ _ (Ne.symm hb)).trans (k₁ _ _ e))

theorem book_list {s : Shared} {x dx : Addr} {l : List KV} {n : Nat} {Q : Value → Shared → Prop} (X : (hd.heap_39 w.params).In s.heap) (hx : s.heap.get? x = some (bookObj dx (ents l) n)) (hx1 : 58 < x) (hl : l.length ≤ 1000) (hh : A.handled = none)
    (hQ : ∀ h' tk c', (∀ b o, s.heap.get? b = some o → h'.get? b = some o) → h'.get? s.heap.objs.size = some { cls := .type "list", dict := none, data := .seq (l.map fun y => Value.int y.1 y.2.1).toArray c', slots := #[] } → Q (.ref s.heap.objs.size) { s with heap := h', toks := tk }) :
    wpAny (model PG w) A (call (.type "list") [.ref x]) Q E s := by
  refine callType_codes (Q₁ := fun obj s₁ => obj = .ref s.heap.objs.size ∧ s₁ = { s with heap := s.heap.push { cls := .type "list", data := .seq #[] } }) PySem.F.called_list (PySem.F.typeCall_list_1 _) PySem.F.entry_list_init
    (code_list_new _ ⟨rfl, rfl⟩) fun obj s₁ h₁ => ?_
  obtain ⟨rfl, rfl⟩ := h₁
  have hS : (s.heap.push { cls := .type "list", data := .seq #[] }).get? s.heap.objs.size = some { cls := .type "list", data := .seq #[] } := Heap.get?_push_size _ rfl
  have hne : s.heap.objs.size ≠ x := Nat.ne_of_gt (Heap.lt_size hx)
  refine ⟨⟨_, hS, rfl⟩, PySem.F.args_list_init_2 _ _, ?_⟩
  show wpAny _ _ (do let old ← Builtin.List.listItems (.ref s.heap.objs.size); Builtin.List.listUpdate (.ref s.heap.objs.size) (fun _ => #[]); letGo old.toList.reverse; Builtin.List.listExtendWith (.ref s.heap.objs.size) (.ref x) .none) _ _ _
  refine wpAny_bind ?_
  unfold Builtin.List.listItems
  refine wpAny_bind (wpAny_seqItems hS rfl (wpAny_pure ?_))
  show wpAny _ _ (updateSeq s.heap.objs.size (fun _ => #[]) >>= fun _ => letGo (#[] : Array Value).toList.reverse >>= fun _ => Builtin.List.listExtendWith (.ref s.heap.objs.size) (.ref x) .none) _ _ _
  refine wpAny_bind (wpAny_updateSeq hS rfl ?_)
  have hS₂ := Heap.get?_update_self (Obj.mapSeq (fun _ => (#[] : Array Value))) hS rfl
  have oth : ∀ b o, s.heap.get? b = some o → ((s.heap.push { cls := .type "list", data := .seq #[] }).update s.heap.objs.size (Obj.mapSeq (fun _ => (#[] : Array Value)))).get? b = some o :=
    fun b o e => (Heap.get?_update_other _ _ (Nat.ne_of_gt (Heap.lt_size e))).trans (Heap.get?_push_of_some _ e)
  refine wpAny_bind (wpAny_letGo ?_)
  refine book_extend (A := A.in1) (X.keeps oth) (oth _ _ hx) hx1 hl hh s.heap.objs.size hne (fun b o e => Nat.ne_of_lt (Heap.lt_size (X _ _ e))) _ hS₂ fun h' tk acc' c' hk hS' hacc => ?_
  refine ⟨rfl, hQ h' tk c' (fun b o e => hk b o (Nat.ne_of_lt (Heap.lt_size e)) (oth b o e)) ?_⟩
  have e : acc' = (l.map fun y => Value.int y.1 y.2.1).toArray := by
    apply Array.ext
    · rw [hacc.1]; simp
    · intro i h1 h2
      obtain ⟨y, hy, hv⟩ := hacc.2 i acc'[i] (by simp [h1])
      have e2 := (List.getElem?_eq_some_iff.mp hy).2
      rw [hv]; simp [e2]
  rw [← e]; exact hS'
end
end Mine

namespace Mine
open PySem PySem.W PyProof.Rows PySem.Calls
set_option maxRecDepth 100000
set_option linter.unusedVariables false
section
variable {w : World} {A : Around} {E : Value → Shared → Prop} {h : Heap} {g : Array GenState} {d : Drawn} {t : Nat} {os : OsState}
theorem book_freezeMethod {x dx : Addr} {es : List DictEntry} {n : Nat} {pl : Sem Bool} {Q : Value × List Value → Shared → Prop} (X : (hd.heap_39 w.params).In h)
    (hx : h.get? x = some (bookObj dx es n)) (hdx : h.get? dx = some emptyDict)
    (hq : Q (.ref 55, [.ref x]) ⟨h, g, d, t, os⟩) :
    wpAny (model PG w) A (getMethod (.ref x) "freeze" pl) Q E ⟨h, g, d, t, os⟩ := by
  obtain ⟨f1, f2, f3, f4, f5⟩ := frz_facts X
  obtain ⟨i1, i2, i3, i4, i5⟩ := more_facts X
  have I := inst_book hx hdx
  have L0 := I.type (M := model PG w)
  have S1 : Looks (model PG w) h (specialOf (.ref x) "__getattribute__") (some (.builtin "collections.defaultdict.__getattribute__")) := by
    unfold specialOf
    exact L0.andThen (looks_findIn X f1)
  have S2 : Looks (model PG w) h (specialOf (.ref x) "__getattr__") none := by
    unfold specialOf
    exact L0.andThen (looks_findIn X f2)
  have S3 : Looks (model PG w) h (specialOf (.ref x) "freeze") (some (.ref 55)) := by
    unfold specialOf
    exact L0.andThen (looks_findIn X i4)
  have S4 : Looks (model PG w) h (typeOf (.ref 55)) (.type "function") := looks_typeIn X i5
  have S5 : Looks (model PG w) h (loadPart x (some headPart)) (bookObj dx es n) := Looks.ld hx
  have S6 : Looks (model PG w) h (nsGet dx "freeze") none := fun A Q E s k q => by
    have e := k _ _ hdx
    exact wpAny_nsGet (m := fun _ => none) ⟨emptyDict, #[], 0, e, rfl, (by intro e he; simp at he), fun _ => rfl⟩ q
  unfold getMethod
  dsimp only
  refine wpAny_bind (S1.at ?_)
  dsimp only
  rw [if_neg (by decide +kernel)]
  refine wpAny_bind (S2.at ?_)
  rw [if_neg (by decide)]
  refine wpAny_bind (S3.at ?_)
  dsimp only
  refine wpAny_bind (S4.at ?_)
  rw [if_neg (by decide)]
  refine wpAny_bind (S5.at ?_)
  dsimp only
  refine wpAny_bind (S6.at ?_)
  rw [if_neg (by decide)]
  exact wpAny_bind (wpAny_rule (wpAny_pure hq))
end
end Mine

namespace Mine
open PySem PySem.W PyProof.Rows PySem.Calls
set_option maxRecDepth 100000
set_option linter.unusedVariables false

structure SL where
  k : Int
  tk : Tok
  a : Addr
  zs : List Z
  c : Nat
noncomputable def kvOf (S : List SL) : List KV := S.map fun s => (s.k, s.tk, s.a)
noncomputable def tsOf (S : List SL) : List (Addr × Obj) := S.map fun s => (s.a, W.listOf (itemsOf s.zs) s.c)

theorem Arnd.in1 {A : Around} {d : Nat} (h : Arnd A (d + 1)) : Arnd A.in1 d :=
  ⟨h.hh, by have := h.dep; show A.depth + d < _; omega, by have := h.uni; have : A.in1.units = A.units + 1 := by simp [Around.in1_units]
                                                           omega⟩

theorem bk_kv_some {S : List SL} {k : Int} {a : Addr} (h : bk (kvOf S) k = some a) : ∃ sl ∈ S, sl.k = k ∧ sl.a = a := by
  unfold bk kvOf at h
  rw [List.find?_map, Option.map_map] at h
  obtain ⟨sl, hs, e⟩ := Option.map_eq_some_iff.mp h
  have h1 := List.find?_some hs
  have h2 := List.mem_of_find?_eq_some hs
  exact ⟨sl, h2, by simpa using h1, e⟩
theorem bk_kv_none {S : List SL} {k : Int} (h : bk (kvOf S) k = none) : ∀ sl ∈ S, sl.k ≠ k := by
  unfold bk kvOf at h
  rw [List.find?_map, Option.map_map, Option.map_eq_none_iff, List.find?_eq_none] at h
  intro sl hs e
  exact h sl hs (by simpa using e)

section
variable {w : World} {A : Around} {s : Shared} {H g : Heap} {L : Addr} {m : Str → Option Value} {value slice : PySem.Expr}

theorem news_step {h h' : Heap} {all : List (Addr × Obj)} (N : News g L h all) {x : Addr} (k : ∀ b o, b ≠ x → h.get? b = some o → h'.get? b = some o) (off : ∀ p ∈ all, p.1 ≠ x) : News g L h' all :=
  fun p hp => ⟨k _ _ (off p hp) (N p hp).1, (N p hp).2⟩

theorem sub_open {x dx : Addr} {lit : List (Addr × Obj)} {S : List SL} {nb : Nat} {k : Int} {t : Tok} {Q : Value → Shared → Prop} (G : Gnd w H) (KH : Kp [] H g) (hA : Arnd A 4) (hx1 : 58 < x)
    (F : Fr g L s.heap m) (N : News g L s.heap ((x, bookObj dx (ents (kvOf S)) nb) :: (lit ++ tsOf S))) (hdm : (dx, emptyDict) ∈ lit) (hlit : ∀ p ∈ lit ++ tsOf S, p.1 ≠ x) (hlen : S.length ≤ 900)
    (hq : ∀ h' tk a S' nb', Fr g L h' m → News g L h' ((x, bookObj dx (ents (kvOf S')) nb') :: (lit ++ tsOf S')) →
      ((S' = S ∧ ∃ sl ∈ S, sl.k = k ∧ sl.a = a) ∨ (∃ tk' c, (∀ sl ∈ S, sl.k ≠ k) ∧ S' = S ++ [⟨k, tk', a, [], c⟩] ∧ a ≠ x ∧ ∀ p ∈ lit ++ tsOf S, p.1 ≠ a)) → Q (.ref a) { s with heap := h', toks := tk })
    (hs : subscripted slice false (.ref x) (.int k t) = operate [.ref x, .int k t] (getItem (.ref x) (.int k t)) := by with_unfolding_all rfl) :
    wpAny (model PG w) A (subscriptTail value slice (.ref x) (.int k t)) Q (fun _ _ => False) s := by
  obtain ⟨h, gg, d, tt, os⟩ := s
  dsimp only at F N hq
  have KHh : Kp [] H h := fun b o hb e => F.keep _ _ (KH b o hb e)
  have X : (hd.heap_39 w.params).In h := G.X.keeps fun b o e => KHh b o (by simp) e
  have hx := (N _ (List.Mem.head _)).1
  dsimp only at hx
  have hdx := (N (dx, emptyDict) (List.Mem.tail _ (List.mem_append_left _ hdm))).1
  refine book_tail (l := kvOf S) X hx hdx hx1 ?_ hs
  cases hb : bk (kvOf S) k with
  | some a =>
    exact hq h _ a S nb F N (.inl ⟨rfl, bk_kv_some hb⟩)
  | none =>
    dsimp only
    refine missing_spec (s := ⟨h, gg, d, tt + 1, os⟩) (l := kvOf S) (n := nb) G KHh (hA.less (e := 4) (by omega)).in1 hx hb (by simp [kvOf]; omega) hx1 hdx fun h' t' a M => ?_
    obtain ⟨tk', hbk⟩ := M.bk
    obtain ⟨c, hnew⟩ := M.new
    have hax : a ≠ x := fun e => by have := M.none; rw [e] at this; dsimp only at this; rw [hx] at this; cases this
    have hag : g.get? a = none := by
      cases z : g.get? a with
      | none => rfl
      | some o => have := F.keep _ _ z; have q := M.none; dsimp only at q; rw [q] at this; cases this
    have hoff : ∀ p ∈ lit ++ tsOf S, p.1 ≠ a := fun p hp e => by
      have := (N p (List.Mem.tail _ hp)).1; rw [e] at this; have q := M.none; dsimp only at q; rw [q] at this; cases this
    have hxL : x ≠ L := (N _ (List.Mem.head _)).2.1
    have hxg : g.get? x = none := (N _ (List.Mem.head _)).2.2
    have haL : a ≠ L := fun e => by
      obtain ⟨oL, es, ep, hL, r⟩ := F.ns
      have q := M.none; dsimp only at q; rw [← e, q] at hL; cases hL
    refine hq h' t' a (S ++ [⟨k, tk', a, [], c⟩]) (nb + 1) (fr_chg F M.keep hxL hxg) ?_ (.inr ⟨tk', c, bk_kv_none hb, rfl, hax, hoff⟩)
    intro p hp
    rcases List.mem_cons.mp hp with rfl | hp
    · refine ⟨?_, hxL, hxg⟩
      have e : kvOf (S ++ [⟨k, tk', a, [], c⟩]) = kvOf S ++ [(k, tk', a)] := by simp [kvOf]
      rw [e]; exact hbk
    · rw [tsOf, List.map_append, ← List.append_assoc] at hp
      rcases List.mem_append.mp hp with hp | hp
      · exact ⟨M.keep _ _ (hlit p hp) (N p (List.Mem.tail _ hp)).1, (N p (List.Mem.tail _ hp)).2⟩
      · simp only [List.map_cons, List.map_nil, List.mem_singleton] at hp
        subst hp
        refine ⟨?_, haL, hag⟩
        rw [hnew]; rfl

theorem sub_frozen {x dx : Addr} {lit WW : List (Addr × Obj)} {S : List SL} {nb : Nat} {k : Int} {t : Tok} {Q : Value → Shared → Prop} (G : Gnd w H) (KH : Kp [] H g) (hA : Arnd A 4) (hx1 : 58 < x)
    (F : Fr g L s.heap m) (N : News g L s.heap ((x, bookObj dx (ents (kvOf S)) nb) :: (lit ++ tsOf S))) (hW : FrzAt w H x dx WW) (hWl : ∀ p ∈ WW, p ∈ lit)
    (hit : ∀ tk a, (∃ sl ∈ S, sl.k = k ∧ sl.a = a) → Q (.ref a) { s with toks := tk })
    (miss : ∀ h' tk a c, (∀ sl ∈ S, sl.k ≠ k) → Fr g L h' m → News g L h' ((x, bookObj dx (ents (kvOf S)) nb) :: (lit ++ tsOf S)) → h'.get? a = some (W.listOf #[] c) → g.get? a = none → a ≠ L → (∀ p ∈ (x, bookObj dx (ents (kvOf S)) nb) :: (lit ++ tsOf S), p.1 ≠ a) → Q (.ref a) { s with heap := h', toks := tk })
    (hs : subscripted slice false (.ref x) (.int k t) = operate [.ref x, .int k t] (getItem (.ref x) (.int k t)) := by with_unfolding_all rfl) :
    wpAny (model PG w) A (subscriptTail value slice (.ref x) (.int k t)) Q (fun _ _ => False) s := by
  obtain ⟨h, gg, d, tt, os⟩ := s
  dsimp only at F N hit miss
  have KHh : Kp [] H h := fun b o hb e => F.keep _ _ (KH b o hb e)
  have X : (hd.heap_39 w.params).In h := G.X.keeps fun b o e => KHh b o (by simp) e
  have hx := (N _ (List.Mem.head _)).1
  dsimp only at hx
  have hWs : ∀ p ∈ WW, h.get? p.1 = some p.2 := fun p hp => (N p (List.Mem.tail _ (List.mem_append_left _ (hWl p hp)))).1
  obtain ⟨od, hdx⟩ : ∃ od, h.get? dx = some od := by
    obtain ⟨fhs, ftk, f, fn, lo, fd, W', e, r⟩ := hW
    exact ⟨_, hWs (dx, frzDict fhs ftk f fn) (by rw [e]; exact List.Mem.head _)⟩
  refine book_tail (l := kvOf S) X hx hdx hx1 ?_ hs
  cases hb : bk (kvOf S) k with
  | some a => exact hit _ a (bk_kv_some hb)
  | none =>
    dsimp only
    refine missing_frozen (s := ⟨h, gg, d, tt + 1, os⟩) (n := nb) G KHh (hA.less (e := 4) (by omega)).in1 hx hx1 hW hWs fun h' a c t' k' hnew hnone => ?_
    dsimp only at k' hnew hnone
    have haL : a ≠ L := fun e => by
      obtain ⟨oL, es, ep, hL, r⟩ := F.ns
      rw [← e, hnone] at hL; cases hL
    refine miss h' t' a c (bk_kv_none hb) (F.keeps k') (N.grown k') hnew ?_ haL fun p hp e => ?_
    · cases z : g.get? a with
      | none => rfl
      | some o => have := F.keep _ _ z; rw [hnone] at this; cases this
    · have := (N p hp).1; rw [e, hnone] at this; cases this
end
end Mine

namespace Mine
open PySem PySem.W PyProof.Rows PySem.Calls
set_option maxRecDepth 100000
set_option linter.unusedVariables false

noncomputable def setS (S : List SL) (a : Addr) (zs : List Z) (c : Nat) : List SL := S.map fun s => if s.a = a then { s with zs := zs, c := c } else s
theorem kvOf_setS (S : List SL) (a : Addr) (zs : List Z) (c : Nat) : kvOf (setS S a zs c) = kvOf S := by
  unfold kvOf setS
  rw [List.map_map]
  apply List.map_congr_left
  intro s _
  simp only [Function.comp]
  split <;> rfl
theorem setS_k (S : List SL) (a : Addr) (zs : List Z) (c : Nat) : (setS S a zs c).map (·.k) = S.map (·.k) := by
  unfold setS
  rw [List.map_map]
  apply List.map_congr_left
  intro s _
  simp only [Function.comp]
  split <;> rfl
theorem setS_a (S : List SL) (a : Addr) (zs : List Z) (c : Nat) : (setS S a zs c).map (·.a) = S.map (·.a) := by
  unfold setS
  rw [List.map_map]
  apply List.map_congr_left
  intro s _
  simp only [Function.comp]
  split <;> rfl
theorem setS_length (S : List SL) (a : Addr) (zs : List Z) (c : Nat) : (setS S a zs c).length = S.length := by simp [setS]

theorem tail_step {g h h' : Heap} {L : Addr} {hdl : List (Addr × Obj)} {S : List SL} {a : Addr} {zs : List Z} {c : Nat} (N : News g L h (hdl ++ tsOf S)) (k : Kp [a] h h') (off : ∀ p ∈ hdl, p.1 ≠ a) (hl : h'.get? a = some (W.listOf (itemsOf zs) c)) :
    News g L h' (hdl ++ tsOf (setS S a zs c)) := by
  intro p hp
  rcases List.mem_append.mp hp with hp | hp
  · exact ⟨k _ _ (by simpa using off p hp) (N p (List.mem_append_left _ hp)).1, (N p (List.mem_append_left _ hp)).2⟩
  · obtain ⟨s', hs', rfl⟩ := List.mem_map.mp hp
    obtain ⟨s, hs, rfl⟩ := List.mem_map.mp hs'
    have n := N (s.a, W.listOf (itemsOf s.zs) s.c) (List.mem_append_right _ (List.mem_map.mpr ⟨s, hs, rfl⟩))
    by_cases e : s.a = a
    · rw [if_pos e]
      exact ⟨by show h'.get? s.a = _; rw [e]; exact hl, n.2⟩
    · rw [if_neg e]
      exact ⟨k _ _ (by simpa using e) n.1, n.2⟩

section
variable {w : World} {A : Around} {s : Shared} {H g : Heap} {L : Addr} {m : Str → Option Value}

theorem push_slot {hdl : List (Addr × Obj)} {S : List SL} {sl : SL} {z : Z} {v : Value} {Q : Value → Shared → Prop} (G : Gnd w H) (KH : Kp [] H g) (hA : Arnd A 5)
    (F : Fr g L s.heap m) (N : News g L s.heap (hdl ++ tsOf S)) (hsl : sl ∈ S) (off : ∀ p ∈ hdl, p.1 ≠ sl.a) (hv : v = z.1) (hz : ∀ h, ∀ z ∈ sl.zs, Itm h false z) (hz0 : ∀ h, Itm h false z) (hlen : sl.zs.length < 63)
    (hq : ∀ h' tk c', Fr g L h' m → News g L h' (hdl ++ tsOf (setS S sl.a (pushL sl.zs z) c')) → Q .none { s with heap := h', toks := tk }) :
    wpAny (model PG w) A (call (.ref 69) [.ref sl.a, v]) Q (fun _ _ => False) s := by
  have n := N (sl.a, W.listOf (itemsOf sl.zs) sl.c) (List.mem_append_right _ (List.mem_map.mpr ⟨sl, hsl, rfl⟩))
  have hH : H.get? sl.a = none := by
    cases q : H.get? sl.a with
    | none => rfl
    | some o => have := KH _ _ (by simp) q; rw [n.2.2] at this; cases this
  refine heappush_spec (k := false) (z := z) G (fun b o hb e => F.keep _ _ (KH b o hb e)) hA hv n.1 (hz _) (hz0 _) hH hlen fun h' tk n' hl' k' => ?_
  exact hq h' tk n' (after1 F k' n.2.2 n.2.1) (tail_step N k' off hl')

theorem pop_slot {hdl : List (Addr × Obj)} {S : List SL} {sl : SL} {zs : List Z} {z : Z} {Q : Value → Shared → Prop} (G : Gnd w H) (KH : Kp [] H g) (hA : Arnd A 5)
    (F : Fr g L s.heap m) (N : News g L s.heap (hdl ++ tsOf S)) (hsl : sl ∈ S) (off : ∀ p ∈ hdl, p.1 ≠ sl.a) (hzs : sl.zs = zs ++ [z]) (hz : ∀ h, ∀ z ∈ sl.zs, Itm h false z) (hlen : zs.length < 63)
    (hq : ∀ h' tk c', Fr g L h' m → News g L h' (hdl ++ tsOf (setS S sl.a (popL zs z) c')) → Q (popV zs z).1 { s with heap := h', toks := tk }) :
    wpAny (model PG w) A (call (.ref 76) [.ref sl.a]) Q (fun _ _ => False) s := by
  have n := N (sl.a, W.listOf (itemsOf sl.zs) sl.c) (List.mem_append_right _ (List.mem_map.mpr ⟨sl, hsl, rfl⟩))
  have hH : H.get? sl.a = none := by
    cases q : H.get? sl.a with
    | none => rfl
    | some o => have := KH _ _ (by simp) q; rw [n.2.2] at this; cases this
  have n1 := n.1
  dsimp only at n1
  rw [hzs] at n1
  refine heappop_spec (k := false) G (fun b o hb e => F.keep _ _ (KH b o hb e)) hA n1 (fun y hy => hz _ y (by rw [hzs]; exact List.mem_append_left _ hy)) (hz _ z (by rw [hzs]; simp)) hH hlen fun h' tk n' hl' k' => ?_
  exact hq h' tk n' (after1 F k' n.2.2 n.2.1) (tail_step N k' off hl')
end
end Mine

namespace Mine
open PySem PySem.W PyProof.Rows PySem.Calls
set_option maxRecDepth 100000
set_option linter.unusedVariables false

noncomputable def mem (N : Nat) (σ : Nat → Option Int) (k : Int) : List Int := ((List.range N).filter fun n => σ n == some k).map fun n : Nat => (n : Int)
noncomputable def upd (σ : Nat → Option Int) (n : Nat) (v : Option Int) : Nat → Option Int := fun i => if i = n then v else σ i

structure Good (N : Nat) (σ : Nat → Option Int) (S : List SL) : Prop where
  nk : (S.map (·.k)).Nodup
  na : (S.map (·.a)).Nodup
  itm : ∀ sl ∈ S, ∀ h, ∀ z ∈ sl.zs, Itm h false z
  heap : ∀ sl ∈ S, HeapFrom 0 sl.zs
  perm : ∀ sl ∈ S, (sl.zs.map (·.2.1)).Perm (mem N σ sl.k)
  cov : ∀ n, n < N → ∀ k, σ n = some k → ∃ sl ∈ S, sl.k = k

theorem mem_mem {N : Nat} {σ : Nat → Option Int} {k : Int} {i : Int} : i ∈ mem N σ k ↔ ∃ n : Nat, n < N ∧ σ n = some k ∧ (n : Int) = i := by
  unfold mem
  simp only [List.mem_map, List.mem_filter, List.mem_range, beq_iff_eq]
  constructor
  · rintro ⟨n, ⟨h1, h2⟩, h3⟩; exact ⟨n, h1, h2, h3⟩
  · rintro ⟨n, h1, h2, h3⟩; exact ⟨n, ⟨h1, h2⟩, h3⟩
theorem mem_nodup (N : Nat) (σ : Nat → Option Int) (k : Int) : (mem N σ k).Nodup := by
  unfold mem
  refine List.pairwise_map.mpr ((List.Pairwise.filter _ (show List.Pairwise (· ≠ ·) (List.range N) from List.nodup_range)).imp fun {a b} h e => h (Int.ofNat_inj.mp e))
theorem perm_of_mem {l m : List Int} (hl : l.Nodup) (hm : m.Nodup) (h : ∀ i, i ∈ l ↔ i ∈ m) : l.Perm m := (List.perm_ext_iff_of_nodup hl hm).mpr h
theorem mem_len (N : Nat) (σ : Nat → Option Int) (k : Int) : (mem N σ k).length ≤ N := by
  unfold mem
  rw [List.length_map]
  exact Nat.le_trans (List.length_filter_le _ _) (by simp)

theorem addr_inj {S : List SL} (h : (S.map (·.a)).Nodup) {s t : SL} (hs : s ∈ S) (ht : t ∈ S) (e : s.a = t.a) : s = t := by
  induction S with
  | nil => cases hs
  | cons x S ih =>
    rw [List.map_cons, List.nodup_cons] at h
    rcases List.mem_cons.mp hs with hs1 | hs1
    · rcases List.mem_cons.mp ht with ht1 | ht1
      · rw [hs1, ht1]
      · exact absurd (show x.a ∈ S.map (·.a) from List.mem_map.mpr ⟨t, ht1, by rw [← e, hs1]⟩) h.1
    · rcases List.mem_cons.mp ht with ht1 | ht1
      · exact absurd (show x.a ∈ S.map (·.a) from List.mem_map.mpr ⟨s, hs1, by rw [e, ht1]⟩) h.1
      · exact ih h.2 hs1 ht1
theorem key_inj {S : List SL} (h : (S.map (·.k)).Nodup) {s t : SL} (hs : s ∈ S) (ht : t ∈ S) (e : s.k = t.k) : s = t := by
  induction S with
  | nil => cases hs
  | cons x S ih =>
    rw [List.map_cons, List.nodup_cons] at h
    rcases List.mem_cons.mp hs with hs1 | hs1
    · rcases List.mem_cons.mp ht with ht1 | ht1
      · rw [hs1, ht1]
      · exact absurd (show x.k ∈ S.map (·.k) from List.mem_map.mpr ⟨t, ht1, by rw [← e, hs1]⟩) h.1
    · rcases List.mem_cons.mp ht with ht1 | ht1
      · exact absurd (show x.k ∈ S.map (·.k) from List.mem_map.mpr ⟨s, hs1, by rw [e, ht1]⟩) h.1
      · exact ih h.2 hs1 ht1

theorem mem_setS {S : List SL} {a : Addr} {zs : List Z} {c : Nat} {t : SL} (h : t ∈ setS S a zs c) : (t ∈ S ∧ t.a ≠ a) ∨ ∃ s ∈ S, s.a = a ∧ t = { s with zs := zs, c := c } := by
  obtain ⟨s, hs, rfl⟩ := List.mem_map.mp h
  by_cases e : s.a = a
  · rw [if_pos e]; exact .inr ⟨s, hs, e, rfl⟩
  · rw [if_neg e]; exact .inl ⟨hs, e⟩
theorem setS_mem {S : List SL} {a : Addr} {zs : List Z} {c : Nat} {s : SL} (hs : s ∈ S) : ∃ t ∈ setS S a zs c, t.k = s.k ∧ t.a = s.a := by
  refine ⟨_, List.mem_map.mpr ⟨s, hs, rfl⟩, ?_⟩
  split <;> exact ⟨rfl, rfl⟩

theorem Good.add {N : Nat} {σ : Nat → Option Int} {S : List SL} (G : Good N σ S) {k : Int} {tk : Tok} {a : Addr} {c : Nat} (hk : ∀ sl ∈ S, sl.k ≠ k) (ha : ∀ sl ∈ S, sl.a ≠ a) : Good N σ (S ++ [⟨k, tk, a, [], c⟩]) where
  nk := by
    rw [List.map_append, List.nodup_append]
    refine ⟨G.nk, by simp, ?_⟩
    intro x hx y hy
    obtain ⟨s, hs, rfl⟩ := List.mem_map.mp hx
    simp only [List.map_cons, List.map_nil, List.mem_singleton] at hy
    subst hy
    exact hk s hs
  na := by
    rw [List.map_append, List.nodup_append]
    refine ⟨G.na, by simp, ?_⟩
    intro x hx y hy
    obtain ⟨s, hs, rfl⟩ := List.mem_map.mp hx
    simp only [List.map_cons, List.map_nil, List.mem_singleton] at hy
    subst hy
    exact ha s hs
  itm := fun sl hs h z hz => by
    rcases List.mem_append.mp hs with hs | hs
    · exact G.itm sl hs h z hz
    · rw [List.mem_singleton.mp hs] at hz; cases hz
  heap := fun sl hs => by
    rcases List.mem_append.mp hs with hs | hs
    · exact G.heap sl hs
    · rw [List.mem_singleton.mp hs]
      intro i hi; simp
  perm := fun sl hs => by
    rcases List.mem_append.mp hs with hs | hs
    · exact G.perm sl hs
    · rw [List.mem_singleton.mp hs]
      have : mem N σ k = [] := by
        rw [List.eq_nil_iff_forall_not_mem]
        intro i hi
        obtain ⟨n, h1, h2, _⟩ := mem_mem.mp hi
        obtain ⟨sl', hs', e⟩ := G.cov n h1 k h2
        exact hk sl' hs' e
      show List.Perm [] (mem N σ k)
      rw [this]
  cov := fun n hn k' e => by
    obtain ⟨sl', hs', e'⟩ := G.cov n hn k' e
    exact ⟨sl', List.mem_append_left _ hs', e'⟩

theorem upd_iff {σ : Nat → Option Int} {n i : Nat} {v : Option Int} {k : Int} : upd σ n v i = some k ↔ (i = n ∧ v = some k) ∨ (i ≠ n ∧ σ i = some k) := by
  unfold upd
  by_cases h : i = n <;> simp [h]

theorem mem_upd_other {N : Nat} {σ : Nat → Option Int} {n : Nat} {v : Option Int} {k : Int} (h1 : v ≠ some k) (h2 : σ n ≠ some k) : (mem N (upd σ n v) k).Perm (mem N σ k) := by
  refine perm_of_mem (mem_nodup _ _ _) (mem_nodup _ _ _) fun i => ?_
  rw [mem_mem, mem_mem]
  constructor
  · rintro ⟨j, a, b, c⟩
    rcases upd_iff.mp b with ⟨_, e⟩ | ⟨_, e⟩
    · exact absurd e h1
    · exact ⟨j, a, e, c⟩
  · rintro ⟨j, a, b, c⟩
    refine ⟨j, a, upd_iff.mpr (.inr ⟨fun e => ?_, b⟩), c⟩
    rw [e] at b; exact h2 b

theorem mem_upd_self {N : Nat} {σ : Nat → Option Int} {n : Nat} {k : Int} (hn : n < N) (h2 : σ n ≠ some k) : (mem N (upd σ n (some k)) k).Perm (mem N σ k ++ [(n : Int)]) := by
  refine perm_of_mem (mem_nodup _ _ _) ?_ fun i => ?_
  · rw [List.nodup_append]
    refine ⟨mem_nodup _ _ _, by simp, fun a ha b hb e => ?_⟩
    simp only [List.mem_singleton] at hb
    obtain ⟨j, _, q, r⟩ := mem_mem.mp ha
    have : j = n := by (first | lia | omega)
    rw [this] at q; exact h2 q
  · rw [mem_mem, List.mem_append, mem_mem, List.mem_singleton]
    constructor
    · rintro ⟨j, a, b, c⟩
      rcases upd_iff.mp b with ⟨e, _⟩ | ⟨_, e⟩
      · right; rw [← c, e]
      · left; exact ⟨j, a, e, c⟩
    · rintro (⟨j, a, b, c⟩ | rfl)
      · refine ⟨j, a, upd_iff.mpr (.inr ⟨fun e => ?_, b⟩), c⟩
        rw [e] at b; exact h2 b
      · exact ⟨n, hn, upd_iff.mpr (.inl ⟨rfl, rfl⟩), rfl⟩

theorem mem_upd_out {N : Nat} {σ : Nat → Option Int} {n : Nat} {k : Int} (hn : n < N) (h2 : σ n = some k) : (mem N σ k).Perm ((n : Int) :: mem N (upd σ n none) k) := by
  refine perm_of_mem (mem_nodup _ _ _) ?_ fun i => ?_
  · rw [List.nodup_cons]
    refine ⟨fun h => ?_, mem_nodup _ _ _⟩
    obtain ⟨j, _, q, r⟩ := mem_mem.mp h
    rcases upd_iff.mp q with ⟨_, e⟩ | ⟨e, _⟩
    · cases e
    · exact e (by (first | lia | omega))
  · rw [mem_mem, List.mem_cons, mem_mem]
    constructor
    · rintro ⟨j, a, b, c⟩
      by_cases e : j = n
      · left; rw [← c, e]
      · right; exact ⟨j, a, upd_iff.mpr (.inr ⟨e, b⟩), c⟩
    · rintro (rfl | ⟨j, a, b, c⟩)
      · exact ⟨n, hn, h2, rfl⟩
      · rcases upd_iff.mp b with ⟨_, e⟩ | ⟨_, e⟩
        · cases e
        · exact ⟨j, a, e, c⟩

theorem Good.other {N : Nat} {σ : Nat → Option Int} {S : List SL} (G : Good N σ S) {sl t : SL} (hsl : sl ∈ S) (ht : t ∈ S) (e : t.a ≠ sl.a) : t.k ≠ sl.k := fun q => e (by rw [key_inj G.nk ht hsl q])

theorem Good.push {N : Nat} {σ : Nat → Option Int} {S : List SL} (G : Good N σ S) {sl : SL} (hsl : sl ∈ S) {n : Nat} (hn : n < N) (hσ : σ n = none) {z : Z} (hz : ∀ h, Itm h false z) (hzn : z.2.1 = (n : Int)) (c : Nat) :
    Good N (upd σ n (some sl.k)) (setS S sl.a (pushL sl.zs z) c) where
  nk := by rw [setS_k]; exact G.nk
  na := by rw [setS_a]; exact G.na
  itm := fun t ht h y hy => by
    rcases mem_setS ht with ⟨h1, _⟩ | ⟨s, hs, e, rfl⟩
    · exact G.itm t h1 h y hy
    · rcases List.mem_append.mp ((pushL_perm sl.zs z).mem_iff.mp hy) with q | q
      · exact G.itm sl hsl h y q
      · rw [List.mem_singleton.mp q]; exact hz h
  heap := fun t ht => by
    rcases mem_setS ht with ⟨h1, _⟩ | ⟨s, hs, e, rfl⟩
    · exact G.heap t h1
    · exact pushL_heap (G.heap sl hsl)
  perm := fun t ht => by
    rcases mem_setS ht with ⟨h1, h2⟩ | ⟨s, hs, e, rfl⟩
    · exact (G.perm t h1).trans (mem_upd_other (fun q => G.other hsl h1 h2 (Option.some.inj q).symm) (by rw [hσ]; simp)).symm
    · have es := addr_inj G.na hs hsl e
      subst es
      show ((pushL s.zs z).map (·.2.1)).Perm (mem N (upd σ n (some s.k)) s.k)
      refine (((pushL_perm s.zs z).map (·.2.1)).trans ?_).trans (mem_upd_self (σ := σ) hn (by rw [hσ]; simp)).symm
      rw [List.map_append, List.map_cons, List.map_nil, hzn]
      exact (G.perm s hs).append_right _
  cov := fun i hi k e => by
    rcases upd_iff.mp e with ⟨_, q⟩ | ⟨_, q⟩
    · obtain ⟨t, ht, e1, e2⟩ := setS_mem (a := sl.a) (zs := pushL sl.zs z) (c := c) hsl
      exact ⟨t, ht, e1.trans (Option.some.inj q)⟩
    · obtain ⟨s, hs, e1⟩ := G.cov i hi k q
      obtain ⟨t, ht, e2, e3⟩ := setS_mem (a := sl.a) (zs := pushL sl.zs z) (c := c) hs
      exact ⟨t, ht, e2.trans e1⟩

theorem Good.pop {N : Nat} {σ : Nat → Option Int} {S : List SL} (G : Good N σ S) {sl : SL} (hsl : sl ∈ S) {zs : List Z} {z : Z} (hzs : sl.zs = zs ++ [z]) :
    ∃ n t, n < N ∧ σ n = some sl.k ∧ (popV zs z).1 = .int (n : Int) t ∧ (∀ i ∈ mem N σ sl.k, (n : Int) ≤ i) ∧ ∀ c, Good N (upd σ n none) (setS S sl.a (popL zs z) c) := by
  have hp := pop_perm zs z
  have hv : popV zs z ∈ sl.zs := by rw [hzs]; exact hp.mem_iff.mp (List.Mem.head _)
  obtain ⟨t, e1, e2⟩ := G.itm sl hsl default _ hv
  have hm := (G.perm sl hsl).mem_iff.mp (List.mem_map.mpr ⟨_, hv, rfl⟩)
  obtain ⟨n, hn, hσ, e3⟩ := mem_mem.mp hm
  refine ⟨n, t, hn, hσ, by rw [e1, e3], fun i hi => ?_, fun c => ?_⟩
  · obtain ⟨y, hy, rfl⟩ := List.mem_map.mp ((G.perm sl hsl).mem_iff.mpr hi)
    have hmin := popV_min (zs := zs) (z := z) (by rw [← hzs]; exact G.heap sl hsl) (y := y) (by rw [← hzs]; exact hy)
    have := zle_iff.mp hmin
    rw [e3]
    (first | lia | omega)
  · refine ⟨by rw [setS_k]; exact G.nk, by rw [setS_a]; exact G.na, fun t ht h y hy => ?_, fun t ht => ?_, fun t ht => ?_, fun i hi k e => ?_⟩
    · rcases mem_setS ht with ⟨h1, _⟩ | ⟨s, hs, e, rfl⟩
      · exact G.itm t h1 h y hy
      · exact G.itm sl hsl h y (by rw [hzs]; exact hp.mem_iff.mp (List.Mem.tail _ hy))
    · rcases mem_setS ht with ⟨h1, _⟩ | ⟨s, hs, e, rfl⟩
      · exact G.heap t h1
      · exact popL_heap (by rw [← hzs]; exact G.heap sl hsl)
    · rcases mem_setS ht with ⟨h1, h2⟩ | ⟨s, hs, e, rfl⟩
      · exact (G.perm t h1).trans (mem_upd_other (by simp) (by rw [hσ]; exact fun q => G.other hsl h1 h2 (Option.some.inj q).symm)).symm
      · have es := addr_inj G.na hs hsl e
        subst es
        show ((popL zs z).map (·.2.1)).Perm (mem N (upd σ n none) s.k)
        have h1 : ((n : Int) :: (popL zs z).map (·.2.1)).Perm ((n : Int) :: mem N (upd σ n none) s.k) := by
          refine List.Perm.trans ?_ ((G.perm s hs).trans (mem_upd_out hn hσ))
          have h2 := hp.map (·.2.1)
          rw [List.map_cons, ← e3] at h2
          rw [hzs]; exact h2
        exact (List.perm_cons _).mp h1
    · rcases upd_iff.mp e with ⟨_, q⟩ | ⟨_, q⟩
      · cases q
      · obtain ⟨s, hs, e1⟩ := G.cov i hi k q
        obtain ⟨t, ht, e2, e3⟩ := setS_mem (a := sl.a) (zs := popL zs z) (c := c) hs
        exact ⟨t, ht, e2.trans e1⟩
end Mine

namespace Mine
open PySem PySem.W PyProof.Rows PySem.Calls
set_option maxRecDepth 100000
set_option linter.unusedVariables false

abbrev St := (Nat → Option Int) × List Int
noncomputable def simPush (fz : Bool) (st : St) (n : Nat) (k : Int) : St :=
  if k ∈ st.2 then (upd st.1 n (some k), st.2) else if fz then (upd st.1 n none, st.2) else (upd st.1 n (some k), st.2 ++ [k])
noncomputable def simLook (fz : Bool) (st : St) (k : Int) : St := if k ∈ st.2 then st else if fz then st else (st.1, st.2 ++ [k])
noncomputable def bellA (bs : List (Int × Int)) (n : Nat) : Int := (bs.getD n (0, 1)).1
noncomputable def bellB (bs : List (Int × Int)) (n : Nat) : Int := (bs.getD n (0, 1)).2
noncomputable def simInit (bs : List (Int × Int)) (i : Nat) : St := (List.range i).foldl (fun st n => simPush false st n (bellA bs n)) (fun _ => none, [])
noncomputable def simRing (fz : Bool) (bs : List (Int × Int)) (h : Int) (st : St) (l : List Int) : St := l.foldl (fun st n => simPush fz st n.toNat (h + bellB bs n.toNat)) st
noncomputable def simHour (e : Int) (bs : List (Int × Int)) (st : St) (h : Int) : St := simRing (decide (e ≤ h)) bs h (simLook (decide (e ≤ h)) st h) (mem bs.length st.1 h)
noncomputable def simTo (e : Int) (bs : List (Int × Int)) (i : Nat) : St := (List.range i).foldl (fun st (h : Nat) => simHour e bs st (h : Int)) (simInit bs bs.length)
noncomputable def simRings (e : Int) (bs : List (Int × Int)) (i : Nat) : List (Int × Int) := (List.range i).flatMap fun h : Nat => (mem bs.length (simTo e bs h).1 (h : Int)).map fun n => ((h : Int), n)

theorem simInit_succ (bs : List (Int × Int)) (i : Nat) : simInit bs (i + 1) = simPush false (simInit bs i) i (bellA bs i) := by
  unfold simInit
  rw [List.range_succ, List.foldl_append]
  rfl
theorem simTo_succ (e : Int) (bs : List (Int × Int)) (i : Nat) : simTo e bs (i + 1) = simHour e bs (simTo e bs i) (i : Int) := by
  unfold simTo
  rw [List.range_succ, List.foldl_append]
  rfl
theorem simRings_succ (e : Int) (bs : List (Int × Int)) (i : Nat) : simRings e bs (i + 1) = simRings e bs i ++ (mem bs.length (simTo e bs i).1 (i : Int)).map fun n => ((i : Int), n) := by
  unfold simRings
  rw [List.range_succ, List.flatMap_append]
  simp

theorem mem_sorted (N : Nat) (σ : Nat → Option Int) (k : Int) : (mem N σ k).Pairwise (· < ·) := by
  unfold mem
  refine List.pairwise_map.mpr ((List.Pairwise.filter _ (List.pairwise_lt_range)).imp fun {a b} h => ?_)
  exact Int.ofNat_lt.mpr h

theorem sorted_eq : ∀ {l m : List Int}, l.Pairwise (· < ·) → m.Pairwise (· < ·) → l.Perm m → l = m
  | [], m, _, _, p => by rw [List.nil_perm.mp p]
  | x :: l, [], _, _, p => by have := List.perm_nil.mp p; cases this
  | x :: l, y :: m, h1, h2, p => by
    have hx := List.pairwise_cons.mp h1
    have hy := List.pairwise_cons.mp h2
    have e : x = y := by
      have a : x ∈ y :: m := p.mem_iff.mp (List.Mem.head _)
      have b : y ∈ x :: l := p.mem_iff.mpr (List.Mem.head _)
      rcases List.mem_cons.mp a with q | q
      · exact q
      · rcases List.mem_cons.mp b with r | r
        · exact r.symm
        · have := hy.1 x q; have := hx.1 y r; omega
    subst e
    rw [sorted_eq hx.2 hy.2 ((List.perm_cons _).mp p)]

theorem mem_head {N : Nat} {σ : Nat → Option Int} {n : Nat} {k : Int} {v : Option Int} (hn : n < N) (h2 : σ n = some k) (hmin : ∀ i ∈ mem N σ k, (n : Int) ≤ i) (hv : v ≠ some k) : mem N σ k = (n : Int) :: mem N (upd σ n v) k := by
  have h3 : (mem N (upd σ n none) k).Perm (mem N (upd σ n v) k) := by
    refine perm_of_mem (mem_nodup _ _ _) (mem_nodup _ _ _) fun i => ?_
    rw [mem_mem, mem_mem]
    constructor
    · rintro ⟨j, a, b, c⟩
      rcases upd_iff.mp b with ⟨_, e⟩ | ⟨q, e⟩
      · cases e
      · exact ⟨j, a, upd_iff.mpr (.inr ⟨q, e⟩), c⟩
    · rintro ⟨j, a, b, c⟩
      rcases upd_iff.mp b with ⟨_, e⟩ | ⟨q, e⟩
      · exact absurd e hv
      · exact ⟨j, a, upd_iff.mpr (.inr ⟨q, e⟩), c⟩
  have hp := (mem_upd_out hn h2).trans (h3.cons _)
  refine sorted_eq (mem_sorted _ _ _) ?_ hp
  rw [List.pairwise_cons]
  refine ⟨fun i hi => ?_, mem_sorted _ _ _⟩
  have h4 := hmin i (hp.mem_iff.mpr (List.Mem.tail _ hi))
  obtain ⟨j, a, b, c⟩ := mem_mem.mp hi
  rcases upd_iff.mp b with ⟨_, e⟩ | ⟨q, e⟩
  · exact absurd e hv
  · omega

theorem upd_upd (σ : Nat → Option Int) (n : Nat) (u v : Option Int) : upd (upd σ n u) n v = upd σ n v := by
  funext i; unfold upd; by_cases h : i = n <;> simp [h]
theorem upd_self (σ : Nat → Option Int) (n : Nat) : upd σ n none n = none := by simp [upd]
end Mine

namespace Mine
open PySem PySem.W PyProof.Rows PySem.Calls
set_option maxRecDepth 100000
set_option linter.unusedVariables false

def BellsAt (h : Heap) (bl : Addr) (bs : List (Int × Int)) : Prop := ∃ (vs : List Value) (c : Nat), h.get? bl = some (W.listOf vs.toArray c) ∧ TupsAt h vs bs
theorem TupsAt.get {h : Heap} {vs : List Value} {ps : List (Int × Int)} (x : TupsAt h vs ps) : ∀ (i : Nat) (p : Int × Int), ps[i]? = some p → ∃ T t u n, vs[i]? = some (.ref T) ∧ h.get? T = some (tup2 p.1 p.2 t u n) := by
  induction x with
  | nil => intro i p e; simp at e
  | cons e' _ ih =>
    intro i p e
    cases i with
    | zero => simp only [List.getElem?_cons_zero, Option.some.injEq] at e; subst e; exact ⟨_, _, _, _, rfl, e'⟩
    | succ i => rw [List.getElem?_cons_succ] at e ⊢; exact ih i p e

section
variable {prog : Program} {w : World} {A : Around} {E : Value → Shared → Prop} {s : Shared} {value slice : PySem.Expr}
theorem tup_item0 {T : Addr} {a b : Int} {t u v : Tok} {n : Nat} {Q : Value → Shared → Prop} (hT : s.heap.get? T = some (tup2 a b t u n)) (h : Q (.int a t) s)
    (hs : subscripted slice false (.ref T) (.int 0 v) = operate [.ref T, .int 0 v] (getItem (.ref T) (.int 0 v)) := by with_unfolding_all rfl) : wpAny (model prog w) A (subscriptTail value slice (.ref T) (.int 0 v)) Q E s :=
  item_tupleT (j := 0) ⟨_, hT, rfl, _, rfl⟩ (by decide) (by decide) (by rfl) (by rfl) h hs
theorem tup_item1 {T : Addr} {a b : Int} {t u v : Tok} {n : Nat} {Q : Value → Shared → Prop} (hT : s.heap.get? T = some (tup2 a b t u n)) (h : Q (.int b u) s)
    (hs : subscripted slice false (.ref T) (.int 1 v) = operate [.ref T, .int 1 v] (getItem (.ref T) (.int 1 v)) := by with_unfolding_all rfl) : wpAny (model prog w) A (subscriptTail value slice (.ref T) (.int 1 v)) Q E s :=
  item_tupleT (j := 1) ⟨_, hT, rfl, _, rfl⟩ (by decide) (by decide) (by rfl) (by rfl) h hs

theorem bell_item {bl : Addr} {vs : List Value} {c : Nat} {k : Int} {u : Tok} {T : Addr} {Q : Value → Shared → Prop} (hl : s.heap.get? bl = some (W.listOf vs.toArray c)) (h0 : 0 ≤ k ∧ k < 1000) (hx : vs[k.toNat]? = some (.ref T)) (h : Q (.ref T) s)
    (hs : subscripted slice false (.ref bl) (.int k u) = operate [.ref bl, .int k u] (getItem (.ref bl) (.int k u)) := by with_unfolding_all rfl) (hg : ∀ r, letTemporaryGo value (.ref bl) r = pure () := by intro _; with_unfolding_all rfl) : wpAny (model prog w) A (subscriptTail value slice (.ref bl) (.int k u)) Q E s :=
  item_list (items := vs.toArray) ⟨_, hl, rfl, _, rfl⟩ h0.1 (by omega) (by rw [List.getElem?_toArray]; exact hx) h hs hg
end

theorem ledger_stable {g h h' : Heap} {L : Addr} {all : List (Addr × Obj)} (N : News g L h all) (hc : ∀ p ∈ all, p.2.cls ≠ .type "range_iterator") (k : Kc "range_iterator" L h h') : News g L h' all :=
  fun p hp => ⟨k _ _ (N p hp).2.1 (hc p hp) (N p hp).1, (N p hp).2⟩
theorem tsOf_cls {S : List SL} : ∀ p ∈ tsOf S, p.2.cls = .type "list" := fun p hp => by
  obtain ⟨s, _, rfl⟩ := List.mem_map.mp hp; rfl
end Mine

namespace Mine
open PySem PySem.W PyProof.Rows PySem.Calls PyProof.Rows.LCg PyProof.Rows.LCt
set_option maxRecDepth 100000
set_option linter.unusedVariables false
noncomputable def Keys (S : List SL) : List Int := S.map (·.k)
def Off (S : List SL) (l : List Addr) : Prop := ∀ sl ∈ S, sl.a ∉ l
theorem simPush_none {fz : Bool} {st : St} {n i : Nat} {k : Int} (h : i ≠ n) : (simPush fz st n k).1 i = st.1 i := by
  unfold simPush upd
  split
  · simp [h]
  · split <;> simp [h]
theorem simInit_none (bs : List (Int × Int)) : ∀ (i n : Nat), i ≤ n → (simInit bs i).1 n = none
  | 0, _, _ => rfl
  | i + 1, n, h => by
    rw [simInit_succ, simPush_none (by omega)]
    exact simInit_none bs i n (by omega)

theorem case_good {N : Nat} {σ : Nat → Option Int} {S S2 : List SL} {k : Int} {a x : Addr} {lit : List (Addr × Obj)} {l : List Addr} (good : Good N σ S) (off : Off S l)
    (hcase : (S2 = S ∧ ∃ sl ∈ S, sl.k = k ∧ sl.a = a) ∨ (∃ tk' c, (∀ sl ∈ S, sl.k ≠ k) ∧ S2 = S ++ [⟨k, tk', a, [], c⟩] ∧ a ≠ x ∧ ∀ p ∈ lit ++ tsOf S, p.1 ≠ a))
    (hl : ∀ b ∈ l, b = x ∨ b ∈ lit.map (·.1)) :
    ∃ sl ∈ S2, sl.a = a ∧ sl.k = k ∧ Good N σ S2 ∧ Keys S2 = (if k ∈ Keys S then Keys S else Keys S ++ [k]) ∧ Off S2 l ∧ S2.length ≤ S.length + 1 ∧ sl.zs.length ≤ N := by
  have len : ∀ {S : List SL}, Good N σ S → ∀ sl ∈ S, sl.zs.length ≤ N := fun g sl hs => by
    have := (g.perm sl hs).length_eq
    rw [List.length_map] at this
    rw [this]; exact mem_len _ _ _
  rcases hcase with ⟨rfl, sl, hs, e1, e2⟩ | ⟨tk', c, h1, rfl, h2, h3⟩
  · refine ⟨sl, hs, e2, e1, good, ?_, off, by omega, len good sl hs⟩
    rw [if_pos (by rw [← e1]; exact List.mem_map.mpr ⟨sl, hs, rfl⟩)]
  · have g2 := good.add (k := k) (tk := tk') (a := a) (c := c) h1 (fun sl hs => h3 (sl.a, _) (List.mem_append_right _ (List.mem_map.mpr ⟨sl, hs, rfl⟩)))
    refine ⟨⟨k, tk', a, [], c⟩, by simp, rfl, rfl, g2, ?_, ?_, by simp, by simp⟩
    · rw [if_neg (fun q => by
        obtain ⟨sl, hs, e⟩ := List.mem_map.mp q
        exact h1 sl hs e)]
      simp [Keys]
    · intro sl hs
      rcases List.mem_append.mp hs with hs | hs
      · exact off sl hs
      · rw [List.mem_singleton.mp hs]
        intro q
        rcases hl _ q with q | q
        · exact h2 q
        · obtain ⟨p, hp, e⟩ := List.mem_map.mp q
          exact h3 p (List.mem_append_left _ hp) e
end Mine

namespace Mine
open PySem PySem.W PyProof.Rows PySem.Calls
set_option maxRecDepth 100000
set_option linter.unusedVariables false
section
variable {w : World} {A : Around} {s : Shared} {H g : Heap} {L : Addr} {m : Str → Option Value} {value slice : PySem.Expr}

theorem freeze_step {x dx : Addr} {rest : List (Addr × Obj)} {S : List SL} {nb : Nat} {Q : Value → Shared → Prop} (G : Gnd w H) (KH : Kp [] H g) (hA : Arnd A 3) (C50 : CodeHd H 54 50) (hx1 : 58 < x)
    (F : Fr g L s.heap m) (N : News g L s.heap ((x, bookObj dx (ents (kvOf S)) nb) :: (dx, emptyDict) :: (50, tabObj #[]) :: rest)) (off : ∀ p ∈ rest, p.1 ≠ dx ∧ p.1 ≠ 50) (hxo : x ≠ dx ∧ x ≠ 50)
    (hq : ∀ h' tk WW, FrzAt w H x dx WW → (∀ p ∈ WW, p.1 = dx ∨ p.1 = 50 ∨ s.heap.get? p.1 = none) → Fr g L h' m → News g L h' ((x, bookObj dx (ents (kvOf S)) nb) :: (WW ++ rest)) → Q .none { s with heap := h', toks := tk }) :
    wpAny (model PG w) A (call (.ref 55) [.ref x]) Q (fun _ _ => False) s := by
  have nx := N _ (List.Mem.head _)
  have nd := N (dx, emptyDict) (by simp)
  have n5 := N (50, tabObj #[]) (by simp)
  have hgH : ∀ a, g.get? a = none → H.get? a = none := fun a e => by
    cases q : H.get? a with
    | none => rfl
    | some o => have := KH _ _ (by simp) q; rw [e] at this; cases this
  refine freeze_spec G (fun b o hb e => F.keep _ _ (KH b o hb e)) hA C50 nx.1 hx1 nd.1 (hgH _ nd.2.2) n5.1 (hgH _ n5.2.2) fun h' tk WW hW hWs hWn k => ?_
  have F' : Fr g L h' m := by
    obtain ⟨oL, es, ep, hL, r⟩ := F.ns
    refine ⟨⟨oL, es, ep, k _ _ ?_ hL, r⟩, fun b o e => k b o ?_ (F.keep b o e), F.above⟩
    · simp only [List.mem_cons, List.not_mem_nil, or_false, not_or]
      exact ⟨n5.2.1.symm, nd.2.1.symm⟩
    · simp only [List.mem_cons, List.not_mem_nil, or_false, not_or]
      exact ⟨fun q => (by rw [q, n5.2.2] at e; cases e), fun q => (by rw [q, nd.2.2] at e; cases e)⟩
  refine hq h' tk WW hW hWn F' fun p hp => ?_
  rcases List.mem_cons.mp hp with rfl | hp
  · exact ⟨k _ _ (by simp [hxo.1, hxo.2]) nx.1, nx.2⟩
  · rcases List.mem_append.mp hp with hp | hp
    · refine ⟨hWs p hp, ?_⟩
      rcases hWn p hp with q | q | q
      · rw [q]; exact nd.2
      · rw [q]; exact n5.2
      · refine ⟨fun e => ?_, ?_⟩
        · obtain ⟨oL, es, ep, hL, r⟩ := F.ns
          rw [← e, q] at hL; cases hL
        · cases z : g.get? p.1 with
          | none => rfl
          | some o => have := F.keep _ _ z; rw [q] at this; cases this
    · have n := N p (by simp [hp])
      exact ⟨k _ _ (by simp [(off p hp).1, (off p hp).2]) n.1, n.2⟩

def DP (w : World) (H : Heap) (x dx : Addr) (fz : Bool) (D : List (Addr × Obj)) : Prop := if fz then FrzAt w H x dx D else D = [(dx, emptyDict), (50, tabObj #[])]

theorem sub_any {x dx : Addr} {pre D T : List (Addr × Obj)} {S : List SL} {nb : Nat} {k : Int} {t : Tok} {fz : Bool} {Q : Value → Shared → Prop} (G : Gnd w H) (KH : Kp [] H g) (hA : Arnd A 4) (hx1 : 58 < x) (hD : DP w H x dx fz D)
    (F : Fr g L s.heap m) (N : News g L s.heap ((x, bookObj dx (ents (kvOf S)) nb) :: (pre ++ ((D ++ T) ++ tsOf S)))) (hlit : ∀ p ∈ pre ++ ((D ++ T) ++ tsOf S), p.1 ≠ x) (hlen : S.length ≤ 900)
    (hq : ∀ h' tk a S' nb', Fr g L h' m → News g L h' ((x, bookObj dx (ents (kvOf S')) nb') :: (pre ++ ((D ++ T) ++ tsOf S'))) →
      ((S' = S ∧ ∃ sl ∈ S, sl.k = k ∧ sl.a = a) ∨ (∃ tk' c, (∀ sl ∈ S, sl.k ≠ k) ∧ S' = S ++ [⟨k, tk', a, [], c⟩] ∧ a ≠ x ∧ ∀ p ∈ (pre ++ (D ++ T)) ++ tsOf S, p.1 ≠ a)) → (fz = true → S' = S) → Q (.ref a) { s with heap := h', toks := tk })
    (lost : ∀ h' tk a c, fz = true → (∀ sl ∈ S, sl.k ≠ k) → Fr g L h' m → News g L h' ((x, bookObj dx (ents (kvOf S)) nb) :: (pre ++ ((D ++ T) ++ tsOf S))) → h'.get? a = some (W.listOf #[] c) → g.get? a = none → a ≠ L →
      (∀ p ∈ (x, bookObj dx (ents (kvOf S)) nb) :: (pre ++ ((D ++ T) ++ tsOf S)), p.1 ≠ a) → Q (.ref a) { s with heap := h', toks := tk })
    (hs : subscripted slice false (.ref x) (.int k t) = operate [.ref x, .int k t] (getItem (.ref x) (.int k t)) := by with_unfolding_all rfl) :
    wpAny (model PG w) A (subscriptTail value slice (.ref x) (.int k t)) Q (fun _ _ => False) s := by
  have ea : ∀ S : List SL, pre ++ ((D ++ T) ++ tsOf S) = (pre ++ (D ++ T)) ++ tsOf S := fun S => by simp only [List.append_assoc]
  rw [ea] at N hlit
  cases fz with
  | false =>
    have hD' : D = [(dx, emptyDict), (50, tabObj #[])] := by simpa [DP] using hD
    refine sub_open (dx := dx) (lit := pre ++ (D ++ T)) (S := S) (nb := nb) G KH hA hx1 F N (by rw [hD']; simp) hlit hlen (fun h' tk a S' nb' F' N' hc => ?_) hs
    exact hq h' tk a S' nb' F' (by rw [ea]; exact N') hc (fun z => by cases z)
  | true =>
    have hD' : FrzAt w H x dx D := by simpa [DP] using hD
    refine sub_frozen (dx := dx) (lit := pre ++ (D ++ T)) (S := S) (nb := nb) G KH hA hx1 F N hD' (fun p hp => by simp [hp]) (fun tk a hh => ?_) (fun h' tk a c h1 F' N' h2 h3 h4 h5 => ?_) hs
    · exact hq _ tk a S nb F (by rw [ea]; exact N) (.inl ⟨rfl, hh⟩) (fun _ => rfl)
    · exact lost h' tk a c rfl h1 F' (by rw [ea]; exact N') h2 h3 h4 (by rw [ea]; exact h5)
end
end Mine

namespace Mine
open PySem PySem.W PyProof.Rows PySem.Calls PyProof.Rows.LCg PyProof.Rows.LCt
set_option maxRecDepth 100000
set_option linter.unusedVariables false
local macro_rules | `(tactic| k_memK) => `(tactic| first | (exact List.Mem.head _) | (refine List.mem_append_left _ ?_; k_memK) | (refine List.mem_append_right _ ?_; k_memK) | (refine List.Mem.tail _ ?_; k_memK) | assumption)
local macro_rules | `(tactic| walk_at "subscriptTail") => `(tactic| (k_here; (with_unfolding_all refine' my_item ?k1 ?k2 ?_ ?k4; (case k1 => exact News.get (by assumption) (by k_mem)); (case k4 => with_unfolding_all rfl); (case k2 => omega); k_whole)))
local macro_rules | `(tactic| walk_at "call builtin:len") => `(tactic| (k_here; (with_unfolding_all refine' my_len ?k1 ?k2 ?_; (case k1 => exact News.get (by assumption) (by k_mem)); (case k2 => omega); k_whole)))
theorem simRings_len (e : Int) (bs : List (Int × Int)) : ∀ i, (simRings e bs i).length ≤ i * bs.length
  | 0 => by simp [simRings]
  | i + 1 => by
    rw [simRings_succ, List.length_append, List.length_map, Nat.add_mul, Nat.one_mul]
    exact Nat.add_le_add (simRings_len e bs i) (mem_len _ _ _)
theorem TupsIn.length {T : List (Addr × Obj)} {vs : List Value} {ps : List (Int × Int)} (a : TupsIn T vs ps) : vs.length = ps.length := by
  induction a with
  | nil => rfl
  | snoc _ ih => simp [ih]
theorem ints_of {zs : List Z} (h : ∀ h, ∀ z ∈ zs, Itm h false z) : IntsAre (zs.map Prod.fst) (zs.map (·.2.1)) := by
  induction zs with
  | nil => exact .nil
  | cons z zs ih =>
    obtain ⟨t, e, _⟩ := h default z (List.Mem.head _)
    rw [List.map_cons, List.map_cons, e]
    exact .cons _ _ (ih fun h' y hy => h h' y (List.Mem.tail _ hy))

theorem off_setS {S : List SL} {l : List Addr} {a : Addr} {zs : List Z} {c : Nat} (h : Off S l) : Off (setS S a zs c) l := fun sl hs => by
  rcases mem_setS hs with ⟨h1, _⟩ | ⟨s', hs', e', rfl⟩
  · exact h sl h1
  · exact h s' hs'
theorem push_hit {fz : Bool} {σ : Nat → Option Int} {ks ks' : List Int} {n : Nat} {k : Int} (h : ks' = if k ∈ ks then ks else ks ++ [k]) (hf : fz = true → ks' = ks) : simPush fz (σ, ks) n k = (upd σ n (some k), ks') := by
  unfold simPush
  by_cases hk : k ∈ ks
  · rw [if_pos hk] at h
    dsimp only
    rw [if_pos hk, h]
  · rw [if_neg hk] at h
    dsimp only
    rw [if_neg hk]
    cases fz with
    | false => simp only [Bool.false_eq_true, if_false]; rw [h]
    | true =>
      have := hf rfl
      rw [this] at h
      have h2 := congrArg List.length h
      simp at h2
theorem push_lost {σ : Nat → Option Int} {ks : List Int} {n : Nat} {k : Int} (h : k ∉ ks) : simPush true (σ, ks) n k = (upd σ n none, ks) := by
  unfold simPush
  dsimp only
  rw [if_neg h]; rfl
theorem mem_nil {N : Nat} {σ : Nat → Option Int} {S : List SL} {k : Int} (G : Good N σ S) (h : ∀ sl ∈ S, sl.k ≠ k) : mem N σ k = [] := by
  rw [List.eq_nil_iff_forall_not_mem]
  intro i hi
  obtain ⟨n, h1, h2, _⟩ := mem_mem.mp hi
  obtain ⟨sl', hs', e⟩ := G.cov n h1 k h2
  exact h sl' hs' e
theorem keys_no {S : List SL} {k : Int} (h : ∀ sl ∈ S, sl.k ≠ k) : k ∉ Keys S := fun q => by
  obtain ⟨sl, hs, e⟩ := List.mem_map.mp q
  exact h sl hs e
theorem keys_setS (S : List SL) (a : Addr) (zs : List Z) (c : Nat) : Keys (setS S a zs c) = Keys S := setS_k S a zs c

def J2 (w : World) (H g : Heap) (L' x dx r : Addr) (bs : List (Int × Int)) (e : Int) (i : Nat) (st : St) (ps : List (Int × Int)) (fz : Bool) (ex : List (Addr × Obj)) (h : Heap) : Prop :=
  ∃ S nb D T rs c, DP w H x dx fz D ∧ News g L' h ((x, bookObj dx (ents (kvOf S)) nb) :: (r, W.listOf rs.toArray c) :: (ex ++ ((D ++ T) ++ tsOf S))) ∧ TupsIn T rs ps ∧ Good bs.length st.1 S ∧ Keys S = st.2 ∧
    (∀ sl ∈ S, sl.a ≠ x ∧ sl.a ≠ r ∧ ∀ p ∈ D, p.1 ≠ sl.a) ∧ S.length ≤ i ∧ (∀ p ∈ D, p.1 ≠ x ∧ p.1 ≠ r) ∧ (∀ p ∈ D, ∀ a l c, p.2 ≠ ritObj a l c)

theorem J2.stable {w : World} {H g : Heap} {L' x dx r : Addr} {bs : List (Int × Int)} {e : Int} {i : Nat} {st : St} {ps : List (Int × Int)} {fz : Bool} {h h' : Heap} (j : J2 w H g L' x dx r bs e i st ps fz [] h) (k : Kd L' h h') : J2 w H g L' x dx r bs e i st ps fz [] h' := by
  obtain ⟨S, nb, D, T, rs, c, d, N, aT, gd, ks, o1, l, o2, o3⟩ := j
  refine ⟨S, nb, D, T, rs, c, d, fun p hp => ?_, aT, gd, ks, o1, l, o2, o3⟩
  have n := N p hp
  refine ⟨k _ _ n.2.1 ?_ n.1, n.2⟩
  simp only [List.mem_cons, List.mem_append, List.nil_append] at hp
  rcases hp with rfl | rfl | (hp | hp) | hp
  · intro a l c q; have := congrArg Obj.data q; cases this
  · intro a l c q; have := congrArg Obj.data q; cases this
  · exact o3 p hp
  · intro a l c q
    obtain ⟨q1, _⟩ := aT.tups p hp
    rw [q] at q1; exact ty_ne (by decide) q1
  · intro a l c q
    have q1 := tsOf_cls p hp
    rw [q] at q1; exact ty_ne (by decide) q1

def JWr (x : Addr) (dx : Addr) (r : Addr) (I : Addr) (bl : Addr) (ra : Int) (rl : Int) (rc : Int) (e : Int) (i : Nat) (t : Tok) (te : Tok) (D3 : List (Addr × Obj)) (bs : List (Int × Int)) (n : Nat) (m : Str → Option Value) (nx : List (Addr × Obj)) : Prop := ∃ σ S nb T rs c ps sl, nx = ((x, bookObj dx (ents (kvOf S)) nb) :: (r, W.listOf rs.toArray c) :: (I, ritObj ra rl rc) :: ((D3 ++ T) ++ tsOf S)) ∧ (m "hour" = some (.int (i : Int) t) ∧ m "bells" = some (.ref bl) ∧ m "book" = some (.ref x) ∧ m "edge" = some (.int e te) ∧ m "rung" = some (.ref r) ∧ m "slot" = some (.ref sl.a)) ∧ TupsIn T rs ps ∧ Good bs.length σ S ∧ (sl ∈ S ∧ sl.k = (i : Int)) ∧ n = (mem bs.length σ (i : Int)).length ∧ (ps ++ (mem bs.length σ (i : Int)).map fun n => ((i : Int), n)) = simRings e bs (i + 1) ∧ simRing (decide (e ≤ (i : Int))) bs (i : Int) (σ, Keys S) (mem bs.length σ (i : Int)) = simTo e bs (i + 1) ∧ Off S ([x, r, I] ++ D3.map (·.1)) ∧ S.length + n ≤ bs.length + i * (bs.length + 1) + 1 + bs.length
def JAr (g : Heap) (L' : Addr) (bl : Addr) (x : Addr) (dx : Addr) (r : Addr) (e : Int) (te : Tok) (bs : List (Int × Int)) (i : Nat) (m : Str → Option Value) (h : Heap) : Prop := (m "bells" = some (.ref bl) ∧ m "book" = some (.ref x) ∧ m "edge" = some (.int e te) ∧ m "rung" = some (.ref r)) ∧ ∃ S nb', News g L' h ((x, bookObj dx (ents (kvOf S)) nb') :: (dx, emptyDict) :: (50, tabObj #[]) :: (r, W.listOf #[] 0) :: tsOf S) ∧ Good bs.length (simInit bs i).1 S ∧ Keys S = (simInit bs i).2 ∧ Off S [x, dx, 50, r] ∧ S.length ≤ i
def JBr (w : World) (H : Heap) (g : Heap) (L' : Addr) (bl : Addr) (x : Addr) (dx : Addr) (r : Addr) (e : Int) (te : Tok) (bs : List (Int × Int)) (i : Nat) (m : Str → Option Value) (h : Heap) : Prop := (m "bells" = some (.ref bl) ∧ m "book" = some (.ref x) ∧ m "edge" = some (.int e te) ∧ m "rung" = some (.ref r)) ∧ J2 w H g L' x dx r bs e (bs.length + i * (bs.length + 1)) (simTo e bs i) (simRings e bs i) (decide (e < (i : Int))) [] h
def QRa (s : Shared) (g : Heap) (L' : Addr) (bl : Addr) (x : Addr) (dx : Addr) (r : Addr) (e : Int) (te : Tok) (bs : List (Int × Int)) (f : Flow) (s' : Shared) : Prop := f = .next ∧ ∃ (h' : Heap) (tk : Nat) (m' : Str → Option Value) (S : List SL) (nb' : Nat), s' = { s with heap := h', toks := tk } ∧ Fr g L' h' m' ∧ (m' "bells" = some (.ref bl) ∧ m' "book" = some (.ref x) ∧ m' "edge" = some (.int e te) ∧ m' "rung" = some (.ref r)) ∧ News g L' h' ((x, bookObj dx (ents (kvOf S)) nb') :: (dx, emptyDict) :: (50, tabObj #[]) :: (r, W.listOf #[] 0) :: tsOf S) ∧ Good bs.length (simInit bs bs.length).1 S ∧ Keys S = (simInit bs bs.length).2 ∧ Off S [x, dx, 50, r] ∧ S.length ≤ bs.length
def QRb (w : World) (H : Heap) (s : Shared) (g : Heap) (L' : Addr) (bl : Addr) (x : Addr) (dx : Addr) (r : Addr) (I : Addr) (ra : Int) (rl : Int) (rc : Int) (e : Int) (i : Nat) (t : Tok) (te : Tok) (S : List SL) (nb2 : Nat) (rs : List Value) (c : Nat) (T : List (Addr × Obj)) (f : Flow) (s' : Shared) : Prop := f = .next ∧ ∃ h' tk' m' D', s' = { s with heap := h', toks := tk' } ∧ Fr g L' h' m' ∧ (m' "hour" = some (.int (i : Int) t) ∧ m' "bells" = some (.ref bl) ∧ m' "book" = some (.ref x) ∧ m' "edge" = some (.int e te) ∧ m' "rung" = some (.ref r)) ∧ DP w H x dx (decide (e ≤ (i : Int))) D' ∧ News g L' h' ((x, bookObj dx (ents (kvOf S)) nb2) :: (r, W.listOf rs.toArray c) :: (I, ritObj ra rl rc) :: ((D' ++ T) ++ tsOf S)) ∧ (∀ sl ∈ S, ∀ p ∈ D', p.1 ≠ sl.a) ∧ (∀ p ∈ D', p.1 ≠ x ∧ p.1 ≠ r ∧ p.1 ≠ I) ∧ (∀ p ∈ D', ∀ a l c, p.2 ≠ ritObj a l c)
set_option maxHeartbeats 1000000 in
theorem rung_spec {w : World} {A : Around} {s : Shared} {H : Heap} {Q : Value → Shared → Prop} (G : Gnd w H) (KH : Kp [] H s.heap) (hA : Arnd A 20) (C50 : CodeHd H 54 50)
    {bl x dx : Addr} {bs : List (Int × Int)} {e : Int} {te : Tok} {nb : Nat} (hbs : BellsAt s.heap bl bs) (hn : bs.length < 60) (hbb : ∀ p ∈ bs, 0 ≤ p.1 ∧ p.1 < 100 ∧ 0 < p.2 ∧ p.2 < 100)
    (hx : s.heap.get? x = some (bookObj dx [] nb)) (hx1 : 58 < x) (hdx : s.heap.get? dx = some emptyDict) (h50 : s.heap.get? 50 = some (tabObj #[])) (hxH : H.get? x = none) (hdH : H.get? dx = none) (h5H : H.get? 50 = none)
    (he : 0 ≤ e)
    (ret : ∀ (h' : Heap) (tk : Nat) (r : Addr) (rs : List Value) (c : Nat) (S : List SL) (nb' : Nat) (D T : List (Addr × Obj)), Kp [x, dx, 50] s.heap h' → s.heap.get? r = none → h'.get? r = some (W.listOf rs.toArray c) → TupsIn T rs (simRings e bs 12) →
      h'.get? x = some (bookObj dx (ents (kvOf S)) nb') → (∀ p ∈ (D ++ T) ++ tsOf S, h'.get? p.1 = some p.2 ∧ p.1 ≠ x ∧ p.1 ≠ r ∧ (p.1 = dx ∨ p.1 = 50 ∨ s.heap.get? p.1 = none)) → DP w H x dx (decide (e < 12)) D →
      Good bs.length (simTo e bs 12).1 S → Keys S = (simTo e bs 12).2 → (∀ sl ∈ S, ∀ p ∈ D, p.1 ≠ sl.a) → S.length ≤ 900 → x ≠ r → Q (.ref r) { s with heap := h', toks := tk }) :
    wpAny (model PG w) A (call (.ref 133) [.ref bl, .ref x, .int e te]) Q (fun _ _ => False) s := by
  obtain ⟨vs, cc, hbl, htup⟩ := hbs
  obtain ⟨p, loose, mean, mg, mb, T0⟩ := G.T
  have X0 := G.X
  have hd0 : PySem.Challenge.rw_in0189_01.foot = PySem.Challenge.rw_in0189_01.foot := rfl
  revert X0 hd0
  k_fill
  intro X0 _
  refine' enter (binds := [("bells", .ref bl), ("book", .ref x), ("edge", .int e te)]) [(x, bookObj dx [] nb), (dx, emptyDict), (50, tabObj #[])] G.X KH T0.nolimit ?hN ?hroom ?ho ?hcd ?hbind ?hloc ?h ?hcell ?hco ?hgen ?hk
  case ho => k_is
  case hN => intro p hp; simp only [List.mem_cons, List.not_mem_nil, or_false] at hp; rcases hp with rfl | rfl | rfl; exact ⟨hx, hxH⟩; exact ⟨hdx, hdH⟩; exact ⟨h50, h5H⟩
  case hroom => have := hA.dep; omega
  case hcd => k_is
  case hbind => exact BindsTo.of_eq rfl
  case hloc => exact locs rfl
  case hcell => decide
  case hco => exact rfl
  case hgen => exact rfl
  case hk => exact rfl
  intro g L' h₁ hg Kg F N hlt
  have X := X0.keeps fun b o e => Kg b o (by simp) e
  have T := T0.keeps fun b o e => Kg b o (by simp) e
  clear X0 T0
  try k_fold
  have hblx : bl ≠ x := fun q => by rw [q, hx] at hbl; exact absurd (congrArg Obj.cls (Option.some.inj hbl)) (by intro z; cases z)
  have hbld : bl ≠ dx := fun q => by rw [q, hdx] at hbl; exact ty_ne (by decide) (congrArg Obj.cls (Option.some.inj hbl))
  have hbl5 : bl ≠ 50 := fun q => by rw [q, h50] at hbl; exact absurd (congrArg Obj.cls (Option.some.inj hbl)) (by intro z; cases z)
  have hgk : ∀ b o its c, s.heap.get? b = some o → o.data = .seq its c → g.get? b = some o := fun b o its c q1 q2 => (hg _ _).mpr ⟨(by
    simp only [List.map_cons, List.map_nil, List.mem_cons, List.not_mem_nil, or_false]
    rintro (rfl | rfl | rfl)
    · rw [hx] at q1; cases q1; cases q2
    · rw [hdx] at q1; cases q1; cases q2
    · rw [h50] at q1; cases q1; cases q2), q1⟩
  have hblg := hgk _ _ _ _ hbl rfl
  have htg : TupsAt g vs bs := htup.mono fun b o its c _ q2 q1 => hgk b o its c q1 q2
  have hvl := htup.length
  (repeat' (first | (k_unfold; (try dsimp only)) | ((with_reducible show wpAny _ _ _ _ _ _); (fail_if_success (with_reducible show wpAny _ _ (exec (Stmt.While _ _ _ _) _) _ _ _)); (fail_if_success (with_reducible show wpAny _ _ (exec (Stmt.For _ _ _ _ _) _) _ _ _)); (fail_if_success (with_reducible show wpAny _ _ (eval (Expr.ListComp _ _ _ _) _) _ _ _)); (fail_if_success (with_reducible show wpAny _ _ (exec (Stmt.Assign [_] (Expr.ListComp _ _ _ _) _) _) _ _ _)); (first | walk1 | (dsimp only; walk1)); (try dsimp only)) | ((with_reducible show (Frag.In _ _ ∧ _)); walk1; (try dsimp only)) | ((with_reducible show ite _ _ _); walk1; (try dsimp only))))
  rename News _ _ _ [_, _, _, _] => N1
  rename Fr _ _ _ _ => F1
  rename_i _ r _ hlr hp1
  have q0 := N1 (r, _) (List.Mem.head _)
  have hrL : r ≠ L' := q0.2.1
  have hgr : g.get? r = none := q0.2.2
  have hrx : x ≠ r := Nat.ne_of_lt hlr.1
  have hrd : dx ≠ r := Nat.ne_of_lt hlr.2.1
  have hr5 : (50 : Nat) ≠ r := Nat.ne_of_lt hlr.2.2
  have hxd : x ≠ dx := fun q => by rw [q, hdx] at hx; cases hx
  have hx5 : x ≠ 50 := fun q => by rw [q] at hx1; exact absurd hx1 (by decide)
  have hd5 : dx ≠ 50 := fun q => by rw [q, h50] at hdx; cases hdx
  refine cut (Q' := QRa s g L' bl x dx r e te bs) ?_ ?_
  · refine my_for_rit (n := bs.length) (a := 0) (c := 1) (g := g)
      (JAr g L' bl x dx r e te bs) hA.hh rfl (by with_unfolding_all rfl) ?_ ?_ ?_ ?_
    · rintro i m h h' ⟨a1, S, nb', NS, r2⟩ hk
      refine ⟨a1, S, nb', ledger_stable NS (fun p hp => ?_) hk, r2⟩
      rcases List.mem_append.mp (show p ∈ [(x, bookObj dx (ents (kvOf S)) nb'), (dx, emptyDict), (50, tabObj #[]), (r, W.listOf #[] 0)] ++ tsOf S from hp) with q | q
      · simp only [List.mem_cons, List.not_mem_nil, or_false] at q
        rcases q with rfl | rfl | rfl | rfl
        · intro z; cases z
        · exact ty_ne (by decide)
        · intro z; cases z
        · exact ty_ne (by decide)
      · rw [tsOf_cls p q]; exact ty_ne (by decide)
    · (repeat' (first | (k_unfold; (try dsimp only)) | ((with_reducible show wpAny _ _ _ _ _ _); (fail_if_success (with_reducible show wpAny _ _ (exec (Stmt.While _ _ _ _) _) _ _ _)); (fail_if_success (with_reducible show wpAny _ _ (exec (Stmt.For _ _ _ _ _) _) _ _ _)); (fail_if_success (with_reducible show wpAny _ _ (eval (Expr.ListComp _ _ _ _) _) _ _ _)); (fail_if_success (with_reducible show wpAny _ _ (exec (Stmt.Assign [_] (Expr.ListComp _ _ _ _) _) _) _ _ _)); (first | walk1 | (dsimp only; walk1)); (try dsimp only)) | ((with_reducible show (Frag.In _ _ ∧ _)); walk1; (try dsimp only)) | ((with_reducible show ite _ _ _); walk1; (try dsimp only))))
      have es : vs.toArray.size = bs.length := by simp [hvl]
      refine len_list (items := vs.toArray) ⟨_, F1.keep _ _ hblg, rfl, _, rfl⟩ (by rw [es]; omega) ?_
      rw [es]
      (repeat' (first | (k_unfold; (try dsimp only)) | ((with_reducible show wpAny _ _ _ _ _ _); (fail_if_success (with_reducible show wpAny _ _ (exec (Stmt.While _ _ _ _) _) _ _ _)); (fail_if_success (with_reducible show wpAny _ _ (exec (Stmt.For _ _ _ _ _) _) _ _ _)); (fail_if_success (with_reducible show wpAny _ _ (eval (Expr.ListComp _ _ _ _) _) _ _ _)); (fail_if_success (with_reducible show wpAny _ _ (exec (Stmt.Assign [_] (Expr.ListComp _ _ _ _) _) _) _ _ _)); (first | walk1 | (dsimp only; walk1)); (try dsimp only)) | ((with_reducible show (Frag.In _ _ ∧ _)); walk1; (try dsimp only)) | ((with_reducible show ite _ _ _); walk1; (try dsimp only))))
      rename IsRange _ _ _ _ _ _ _ _ => R
      rename News _ _ _ [_, _, _, _] => N2
      rename Fr _ _ _ _ => F2
      refine wpAny_pyIter_range R (rsm2 (by omega)) ?_
      rw [rsz2]
      refine ⟨_, _, _, _, rfl, rfl, Heap.get?_push_size _ rfl, fresh_none F2, fresh_ne F2, F2.push _, ⟨rfl, rfl, rfl, rfl⟩, [], nb, ?_, ⟨by simp, by simp, (fun sl h => by cases h), (fun sl h => by cases h), (fun sl h => by cases h), (fun n hn k z => by cases z)⟩, rfl, (fun sl h => by cases h), Nat.le_refl _⟩
      intro p hp
      have hp2 : p ∈ [(r, W.listOf #[] 0), (x, bookObj dx [] nb), (dx, emptyDict), (50, tabObj #[])] := by
        simp only [tsOf, kvOf, ents, List.map_nil, List.mem_cons, List.not_mem_nil, or_false] at hp ⊢
        rcases hp with h | h | h | h <;> simp [h]
      exact ⟨Heap.get?_push_of_some _ (N2 p hp2).1, (N2 p hp2).2⟩
    · rintro i I ro m h tk t hi ⟨⟨a1, a2, a3, a4⟩, S, nb', NS, good, keys, off, hlS⟩ hgI hIL hro hI F
      have F2 : Fr g L' h _ := known5 (a := "number") (b := "bells") (c := "book") (d := "edge") (e := "rung") F rfl a1 a2 a3 a4
      have N2 : News g L' h ((x, bookObj dx (ents (kvOf S)) nb') :: (dx, emptyDict) :: (50, tabObj #[]) :: (r, W.listOf #[] 0) :: (I, ro) :: tsOf S) := by
        intro p hp
        rcases List.mem_append.mp (show p ∈ [(x, bookObj dx (ents (kvOf S)) nb'), (dx, emptyDict), (50, tabObj #[]), (r, W.listOf #[] 0), (I, ro)] ++ tsOf S from hp) with q | q
        · simp only [List.mem_cons, List.not_mem_nil, or_false] at q
          rcases q with rfl | rfl | rfl | rfl | rfl
          · exact NS _ (by k_memK)
          · exact NS _ (by k_memK)
          · exact NS _ (by k_memK)
          · exact NS _ (by k_memK)
          · exact ⟨hI, hIL, hgI⟩
        · exact NS p (by simp [q])
      clear F F1 N1 NS
      have ei : (0 : Int) + (i : Nat) * 1 = (i : Int) := by omega
      rw [ei] at F2
      obtain ⟨ab, hab⟩ : ∃ p, bs[i]? = some p := ⟨bs[i], by simp [hi]⟩
      obtain ⟨Ti, ta, tb, nt, hv, hT⟩ := htg.get i ab hab
      have hbi := hbb ab (List.mem_of_getElem? hab)
      have eA : bellA bs i = ab.1 := by unfold bellA; rw [List.getD_eq_getElem?_getD, hab]; rfl
      (repeat' (first | (k_unfold; (try dsimp only)) | ((with_reducible show wpAny _ _ _ _ _ _); (fail_if_success (with_reducible show wpAny _ _ (exec (Stmt.While _ _ _ _) _) _ _ _)); (fail_if_success (with_reducible show wpAny _ _ (exec (Stmt.For _ _ _ _ _) _) _ _ _)); (fail_if_success (with_reducible show wpAny _ _ (eval (Expr.ListComp _ _ _ _) _) _ _ _)); (fail_if_success (with_reducible show wpAny _ _ (exec (Stmt.Assign [_] (Expr.ListComp _ _ _ _) _) _) _ _ _)); (first | walk1 | (dsimp only; walk1)); (try dsimp only)) | ((with_reducible show (Frag.In _ _ ∧ _)); walk1; (try dsimp only)) | ((with_reducible show ite _ _ _); walk1; (try dsimp only))))
      refine bell_item (F2.keep _ _ hblg) (by omega) (by rw [Int.toNat_natCast]; exact hv) ?_
      (repeat' (first | (k_unfold; (try dsimp only)) | ((with_reducible show wpAny _ _ _ _ _ _); (fail_if_success (with_reducible show wpAny _ _ (exec (Stmt.While _ _ _ _) _) _ _ _)); (fail_if_success (with_reducible show wpAny _ _ (exec (Stmt.For _ _ _ _ _) _) _ _ _)); (fail_if_success (with_reducible show wpAny _ _ (eval (Expr.ListComp _ _ _ _) _) _ _ _)); (fail_if_success (with_reducible show wpAny _ _ (exec (Stmt.Assign [_] (Expr.ListComp _ _ _ _) _) _) _ _ _)); (first | walk1 | (dsimp only; walk1)); (try dsimp only)) | ((with_reducible show (Frag.In _ _ ∧ _)); walk1; (try dsimp only)) | ((with_reducible show ite _ _ _); walk1; (try dsimp only))))
      refine tup_item0 (F2.keep _ _ hT) ?_
      (repeat' (first | (k_unfold; (try dsimp only)) | ((with_reducible show wpAny _ _ _ _ _ _); (fail_if_success (with_reducible show wpAny _ _ (exec (Stmt.While _ _ _ _) _) _ _ _)); (fail_if_success (with_reducible show wpAny _ _ (exec (Stmt.For _ _ _ _ _) _) _ _ _)); (fail_if_success (with_reducible show wpAny _ _ (eval (Expr.ListComp _ _ _ _) _) _ _ _)); (fail_if_success (with_reducible show wpAny _ _ (exec (Stmt.Assign [_] (Expr.ListComp _ _ _ _) _) _) _ _ _)); (first | walk1 | (dsimp only; walk1)); (try dsimp only)) | ((with_reducible show (Frag.In _ _ ∧ _)); walk1; (try dsimp only)) | ((with_reducible show ite _ _ _); walk1; (try dsimp only))))
      have hIx : I ≠ x := fun q => by
        have := (N2 _ (List.Mem.head _)).1
        dsimp only at this; rw [← q, hI] at this; cases this; cases hro
      have offS : ∀ p ∈ tsOf S, p.1 ∉ [x, dx, 50, r] := fun p hp => by
        obtain ⟨sl, hs, rfl⟩ := List.mem_map.mp hp
        exact off sl hs
      refine sub_open (dx := dx) (lit := [(dx, emptyDict), (50, tabObj #[]), (r, W.listOf #[] 0), (I, ro)]) (S := S) (nb := nb') G Kg (hA.less (e := 5) (by decide)).deeper hx1 F2 N2 (by simp) ?_ (by omega) ?_
      · intro p hp
        rcases List.mem_append.mp hp with q | q
        · simp only [List.mem_cons, List.not_mem_nil, or_false] at q
          rcases q with rfl | rfl | rfl | rfl
          · exact hxd.symm
          · exact hx5.symm
          · exact hrx.symm
          · exact hIx
        · have := offS p q; simp only [List.mem_cons, List.not_mem_nil, or_false, not_or] at this; exact this.1
      · intro h2 tk2 a S2 nb2 F3 N3 hcase
        simp only [List.cons_append, List.nil_append] at N3
        clear F2 N2
        have off2 : Off S [x, dx, 50, r, I] := fun sl hs q => by
          have q' : sl.a = I ∨ sl.a ∈ [x, dx, 50, r] := by
            simp only [List.mem_cons, List.not_mem_nil, or_false] at q ⊢
            rcases q with h | h | h | h | h <;> simp [h]
          rcases q' with q' | q'
          · rcases hcase with ⟨e1, _⟩ | ⟨_, _, _, e1, _⟩ <;>
            · have hm : (sl.a, W.listOf (itemsOf sl.zs) sl.c) ∈ tsOf S2 := List.mem_map.mpr ⟨sl, by rw [e1]; simp [hs], rfl⟩
              have h1 := (N3 _ (List.Mem.tail _ (List.Mem.tail _ (List.Mem.tail _ (List.Mem.tail _ (List.Mem.tail _ hm)))))).1
              have h2 := (N3 (I, ro) (by k_memK)).1
              dsimp only at h1 h2
              rw [q', h2] at h1
              exact ty_ne (by decide) (hro.symm.trans (congrArg Obj.cls (Option.some.inj h1)))
          · exact off sl hs q'
        obtain ⟨sl, hsl, rfl, hk2, good2, keys2, off3, hlS2, hzl⟩ := case_good good off2 hcase (by
          intro b hb
          simp only [List.mem_cons, List.not_mem_nil, or_false, List.map_cons, List.map_nil] at hb ⊢
          rcases hb with h | h | h | h | h <;> simp [h])
        have hsσ : (simInit bs i).1 i = none := simInit_none bs i i (Nat.le_refl _)
        (repeat' (first | (k_unfold; (try dsimp only)) | ((with_reducible show wpAny _ _ _ _ _ _); (fail_if_success (with_reducible show wpAny _ _ (exec (Stmt.While _ _ _ _) _) _ _ _)); (fail_if_success (with_reducible show wpAny _ _ (exec (Stmt.For _ _ _ _ _) _) _ _ _)); (fail_if_success (with_reducible show wpAny _ _ (eval (Expr.ListComp _ _ _ _) _) _ _ _)); (fail_if_success (with_reducible show wpAny _ _ (exec (Stmt.Assign [_] (Expr.ListComp _ _ _ _) _) _) _ _ _)); (first | walk1 | (dsimp only; walk1)); (try dsimp only)) | ((with_reducible show (Frag.In _ _ ∧ _)); walk1; (try dsimp only)) | ((with_reducible show ite _ _ _); walk1; (try dsimp only))))
        refine push_slot (hdl := [(x, bookObj dx (ents (kvOf S2)) nb2), (dx, emptyDict), (50, tabObj #[]), (r, W.listOf #[] 0), (I, ro)]) (S := S2) (sl := sl) (z := (.int (i : Int) t, ((i : Int), 0))) G Kg (hA.less (e := 6) (by decide)).deeper F3 N3 hsl ?_ rfl (good2.itm sl hsl) (fun h => ⟨t, rfl, rfl⟩) (by omega) ?_
        · intro p hp q
          have := off3 sl hsl
          simp only [List.mem_cons, List.not_mem_nil, or_false, not_or] at this hp
          rcases hp with rfl | rfl | rfl | rfl | rfl
          · exact this.1 q.symm
          · exact this.2.1 q.symm
          · exact this.2.2.1 q.symm
          · exact this.2.2.2.1 q.symm
          · exact this.2.2.2.2 q.symm
        · intro h4 tk4 c4 F4 N4
          simp only [List.cons_append, List.nil_append] at N4
          clear F3 N3
          (repeat' (first | (k_unfold; (try dsimp only)) | ((with_reducible show wpAny _ _ _ _ _ _); (fail_if_success (with_reducible show wpAny _ _ (exec (Stmt.While _ _ _ _) _) _ _ _)); (fail_if_success (with_reducible show wpAny _ _ (exec (Stmt.For _ _ _ _ _) _) _ _ _)); (fail_if_success (with_reducible show wpAny _ _ (eval (Expr.ListComp _ _ _ _) _) _ _ _)); (fail_if_success (with_reducible show wpAny _ _ (exec (Stmt.Assign [_] (Expr.ListComp _ _ _ _) _) _) _ _ _)); (first | walk1 | (dsimp only; walk1)); (try dsimp only)) | ((with_reducible show (Frag.In _ _ ∧ _)); walk1; (try dsimp only)) | ((with_reducible show ite _ _ _); walk1; (try dsimp only))))
          have good4 := good2.push hsl hi hsσ (z := (.int (i : Int) t, ((i : Int), 0))) (fun h => ⟨t, rfl, rfl⟩) rfl c4
          have est : simInit bs (i + 1) = (upd (simInit bs i).1 i (some sl.k), Keys S2) := by
            rw [simInit_succ, eA, ← hk2]
            unfold simPush
            rw [← keys, keys2, ← hk2]
            split <;> rfl
          refine ⟨_, _, _, rfl, (N4 (I, ro) (by k_memK)).1, F4, ⟨rfl, rfl, rfl, rfl⟩, setS S2 sl.a (pushL sl.zs (.int (i : Int) t, ((i : Int), 0))) c4, nb2, ?_, ?_, ?_, ?_, ?_⟩
          · rw [kvOf_setS]
            intro p hp
            refine N4 p ?_
            (revert p; repeat' first | exact List.forall_mem_nil _ | (refine List.forall_mem_cons.mpr ⟨?_, ?_⟩) | (refine List.forall_mem_append.mpr ⟨?_, ?_⟩) | k_memK | (intro p hp; k_memK))
          · rw [est]; exact good4
          · rw [est]; unfold Keys; rw [setS_k]
          · intro tl htl
            rcases mem_setS htl with ⟨h1, _⟩ | ⟨s', hs', e', rfl⟩
            · have := off3 tl h1; simp only [List.mem_cons, List.not_mem_nil, or_false, not_or] at this ⊢; exact ⟨this.1, this.2.1, this.2.2.1, this.2.2.2.1⟩
            · have := off3 s' hs'; simp only [List.mem_cons, List.not_mem_nil, or_false, not_or] at this ⊢; exact ⟨this.1, this.2.1, this.2.2.1, this.2.2.2.1⟩
          · rw [setS_length]; omega
    · rintro m h tk ⟨a1, S, nb', r2⟩ F
      exact ⟨rfl, h, tk, m, S, nb', rfl, F, a1, r2⟩
  · rintro f s' ⟨rfl, h2, tk2, m2, S, nb', rfl, F2, ⟨a1, a2, a3, a4⟩, N2, good, keys, off, hlS⟩
    have F3 : Fr g L' h2 _ := known4 (a := "bells") (b := "book") (c := "edge") (d := "rung") F2 a1 a2 a3 a4
    clear F1 F2 N1
    (repeat' (first | (k_unfold; (try dsimp only)) | ((with_reducible show wpAny _ _ _ _ _ _); (fail_if_success (with_reducible show wpAny _ _ (exec (Stmt.While _ _ _ _) _) _ _ _)); (fail_if_success (with_reducible show wpAny _ _ (exec (Stmt.For _ _ _ _ _) _) _ _ _)); (fail_if_success (with_reducible show wpAny _ _ (eval (Expr.ListComp _ _ _ _) _) _ _ _)); (fail_if_success (with_reducible show wpAny _ _ (exec (Stmt.Assign [_] (Expr.ListComp _ _ _ _) _) _) _ _ _)); (first | walk1 | (dsimp only; walk1)); (try dsimp only)) | ((with_reducible show (Frag.In _ _ ∧ _)); walk1; (try dsimp only)) | ((with_reducible show ite _ _ _); walk1; (try dsimp only))))
    have hN1 : bs.length + 12 * (bs.length + 1) ≤ 900 := by omega
    have j0 : J2 w H g L' x dx r bs e bs.length (simTo e bs 0) (simRings e bs 0) (decide (e < ((0 : Nat) : Int))) [] h2 := by
      refine ⟨S, nb', [(dx, emptyDict), (50, tabObj #[])], [], [], 0, ?_, ?_, .nil, good, keys, ?_, hlS, ?_, ?_⟩
      · have : decide (e < ((0 : Nat) : Int)) = false := by simp; omega
        rw [this]; simp [DP]
      · intro p hp
        refine N2 p ?_
        (revert p; repeat' first | exact List.forall_mem_nil _ | (refine List.forall_mem_cons.mpr ⟨?_, ?_⟩) | (refine List.forall_mem_append.mpr ⟨?_, ?_⟩) | k_memK | (intro p hp; k_memK))
      · intro sl hs
        have := off sl hs
        simp only [List.mem_cons, List.not_mem_nil, or_false, not_or] at this
        refine ⟨this.1, this.2.2.2, fun p hp q => ?_⟩
        simp only [List.mem_cons, List.not_mem_nil, or_false] at hp
        rcases hp with rfl | rfl
        · exact this.2.1 q.symm
        · exact this.2.2.1 q.symm
      · intro p hp
        simp only [List.mem_cons, List.not_mem_nil, or_false] at hp
        rcases hp with rfl | rfl
        · exact ⟨hxd.symm, hrd⟩
        · exact ⟨hx5.symm, hr5⟩
      · intro p hp a l c q
        simp only [List.mem_cons, List.not_mem_nil, or_false] at hp
        rcases hp with rfl | rfl
        · have := congrArg Obj.data q; cases this
        · have := congrArg Obj.cls q; cases this
    clear N2
    refine my_for_rit2 (n := 12) (a := 0) (c := 1) (g := g)
      (JBr w H g L' bl x dx r e te bs) hA.hh rfl (by with_unfolding_all rfl) ?_ ?_ ?_ ?_
    · rintro i m h h' ⟨a1, j⟩ hk
      exact ⟨a1, j.stable hk⟩
    · have Nd : News g L' h2 [] := fun p hp => by cases hp
      (repeat' (first | (k_unfold; (try dsimp only)) | ((with_reducible show wpAny _ _ _ _ _ _); (fail_if_success (with_reducible show wpAny _ _ (exec (Stmt.While _ _ _ _) _) _ _ _)); (fail_if_success (with_reducible show wpAny _ _ (exec (Stmt.For _ _ _ _ _) _) _ _ _)); (fail_if_success (with_reducible show wpAny _ _ (eval (Expr.ListComp _ _ _ _) _) _ _ _)); (fail_if_success (with_reducible show wpAny _ _ (exec (Stmt.Assign [_] (Expr.ListComp _ _ _ _) _) _) _ _ _)); (first | walk1 | (dsimp only; walk1)); (try dsimp only)) | ((with_reducible show (Frag.In _ _ ∧ _)); walk1; (try dsimp only)) | ((with_reducible show ite _ _ _); walk1; (try dsimp only))))
      rename IsRange _ _ _ _ _ _ _ _ => R
      rename Fr _ _ _ _ => F4
      refine wpAny_pyIter_range R (by decide) ?_
      have e12 : Builtin.Range.rangeSize 0 12 1 = ((12 : Nat) : Int) := by decide
      rw [e12]
      rename (∀ (b : Addr) (o : Obj), _ → _) => kk
      exact ⟨_, _, _, _, rfl, rfl, Heap.get?_push_size _ rfl, fresh_none F4, fresh_ne F4, F4.push _, ⟨rfl, rfl, rfl, rfl⟩, by
        rw [Nat.zero_mul, Nat.add_zero]
        exact j0.stable fun b o _ _ e => Heap.get?_push_of_some _ (kk b o e)⟩
    · rintro i I ro m h tk t hi ⟨⟨b1, b2, b3, b4⟩, S, nb2, D, T, rs, c, d, NS, aT, gd, ks, o1, l, o2, o3⟩ hgI hIL ⟨ra, rl, rc, rfl⟩ hI F
      have ei : (0 : Int) + (i : Nat) * 1 = (i : Int) := by omega
      rw [ei] at F
      have F2 : Fr g L' h _ := known5 (a := "hour") (b := "bells") (c := "book") (d := "edge") (e := "rung") F rfl b1 b2 b3 b4
      have N2 : News g L' h ((x, bookObj dx (ents (kvOf S)) nb2) :: (r, W.listOf rs.toArray c) :: (I, ritObj ra rl rc) :: ((D ++ T) ++ tsOf S)) := by
        intro p hp
        simp only [List.mem_cons, List.mem_append] at hp
        rcases hp with rfl | rfl | rfl | (hp | hp) | hp
        · exact NS _ (by k_memK)
        · exact NS _ (by k_memK)
        · exact ⟨hI, hIL, hgI⟩
        · exact NS p (by k_memK)
        · exact NS p (by k_memK)
        · exact NS p (by k_memK)
      have hIx : I ≠ x := fun q => by
        have := (N2 _ (List.Mem.head _)).1
        dsimp only at this; rw [← q, hI] at this; cases this
      have hIr : I ≠ r := fun q => by
        have := (NS (r, W.listOf rs.toArray c) (by k_memK)).1
        dsimp only at this; rw [← q, hI] at this; exact ty_ne (by decide) (congrArg Obj.cls (Option.some.inj this))
      have hID : ∀ p ∈ D, p.1 ≠ I := fun p hp q => by
        have := (NS p (by k_memK)).1
        rw [q, hI] at this
        exact o3 p hp _ _ _ (Option.some.inj this).symm
      have hIS : ∀ sl ∈ S, sl.a ≠ I := fun sl hs q => by
        have := (NS (sl.a, W.listOf (itemsOf sl.zs) sl.c) (by simp [tsOf, List.mem_map.mpr ⟨sl, hs, rfl⟩])).1
        dsimp only at this
        rw [q, hI] at this
        exact ty_ne (by decide) (congrArg Obj.cls (Option.some.inj this))
      clear F NS F3
      walk1
      refine cut (Q' := QRb w H s g L' bl x dx r I ra rl rc e i t te S nb2 rs c T) ?_ ?_
      · have X2 := X.keeps F2.keep
        (repeat' (first | (k_unfold; (try dsimp only)) | ((with_reducible show wpAny _ _ _ _ _ _); (fail_if_success (with_reducible show wpAny _ _ (exec (Stmt.While _ _ _ _) _) _ _ _)); (fail_if_success (with_reducible show wpAny _ _ (exec (Stmt.For _ _ _ _ _) _) _ _ _)); (fail_if_success (with_reducible show wpAny _ _ (eval (Expr.ListComp _ _ _ _) _) _ _ _)); (fail_if_success (with_reducible show wpAny _ _ (exec (Stmt.Assign [_] (Expr.ListComp _ _ _ _) _) _) _ _ _)); (first | walk1 | (dsimp only; walk1)); (try dsimp only)) | ((with_reducible show (Frag.In _ _ ∧ _)); walk1; (try dsimp only)) | ((with_reducible show ite _ _ _); walk1; (try dsimp only))))
        · have c1 : (i : Int) = e := by assumption
          have hD : D = [(dx, emptyDict), (50, tabObj #[])] := by
            have q : decide (e < (i : Int)) = false := by simp; omega
            rw [q] at d; simpa [DP] using d
          subst hD
          refine book_freezeMethod X2 (N2 _ (List.Mem.head _)).1 (N2 (dx, emptyDict) (by k_memK)).1 ?_
          (repeat' (first | (k_unfold; (try dsimp only)) | ((with_reducible show wpAny _ _ _ _ _ _); (fail_if_success (with_reducible show wpAny _ _ (exec (Stmt.While _ _ _ _) _) _ _ _)); (fail_if_success (with_reducible show wpAny _ _ (exec (Stmt.For _ _ _ _ _) _) _ _ _)); (fail_if_success (with_reducible show wpAny _ _ (eval (Expr.ListComp _ _ _ _) _) _ _ _)); (fail_if_success (with_reducible show wpAny _ _ (exec (Stmt.Assign [_] (Expr.ListComp _ _ _ _) _) _) _ _ _)); (first | walk1 | (dsimp only; walk1)); (try dsimp only)) | ((with_reducible show (Frag.In _ _ ∧ _)); walk1; (try dsimp only)) | ((with_reducible show ite _ _ _); walk1; (try dsimp only))))
          have N3 : News g L' h ((x, bookObj dx (ents (kvOf S)) nb2) :: (dx, emptyDict) :: (50, tabObj #[]) :: ((r, W.listOf rs.toArray c) :: (I, ritObj ra rl rc) :: (T ++ tsOf S))) := by
            intro p hp
            refine N2 p ?_
            (revert p; repeat' first | exact List.forall_mem_nil _ | (refine List.forall_mem_cons.mpr ⟨?_, ?_⟩) | (refine List.forall_mem_append.mpr ⟨?_, ?_⟩) | k_memK | (intro p hp; k_memK))
          have hTn : ∀ p ∈ T, p.1 ≠ dx ∧ p.1 ≠ 50 ∧ p.1 ≠ x := fun p hp => by
            have h1 := (N2 p (by k_memK)).1
            obtain ⟨q1, _⟩ := aT.tups p hp
            refine ⟨fun q => ?_, fun q => ?_, fun q => ?_⟩
            · have h2 := (N2 (dx, emptyDict) (by k_memK)).1
              dsimp only at h2
              rw [q, h2] at h1
              rw [← Option.some.inj h1] at q1; exact ty_ne (by decide) q1
            · have h2 := (N2 (50, tabObj #[]) (by k_memK)).1
              dsimp only at h2
              rw [q, h2] at h1
              rw [← Option.some.inj h1] at q1; cases q1
            · have h2 := (N2 _ (List.Mem.head _)).1
              dsimp only at h2
              rw [q, h2] at h1
              rw [← Option.some.inj h1] at q1; cases q1
          refine freeze_step G Kg (hA.less (e := 4) (by decide)).deeper C50 hx1 F2 N3 ?_ ⟨hxd, hx5⟩ ?_
          · intro p hp
            simp only [List.mem_cons, List.mem_append] at hp
            rcases hp with rfl | rfl | hp | hp
            · exact ⟨hrd.symm, hr5.symm⟩
            · exact ⟨(hID (dx, emptyDict) (by simp)).symm, (hID (50, tabObj #[]) (by simp)).symm⟩
            · exact ⟨(hTn p hp).1, (hTn p hp).2.1⟩
            · obtain ⟨sl, hs, rfl⟩ := List.mem_map.mp hp
              have := (o1 sl hs).2.2
              exact ⟨(this (dx, emptyDict) (by simp)).symm, (this (50, tabObj #[]) (by simp)).symm⟩
          · intro h4 tk4 WW hW hWn F4 N4
            have hWo : ∀ p ∈ WW, ∀ a o, a ≠ dx → a ≠ 50 → h.get? a = some o → p.1 ≠ a := fun p hp a o h1 h5 h2 q => by
              rcases hWn p hp with z | z | z
              · exact h1 (q.symm.trans z)
              · exact h5 (q.symm.trans z)
              · dsimp only at z; rw [q, h2] at z; cases z
            have hxh := (N2 _ (List.Mem.head _)).1
            have hrh := (N2 (r, W.listOf rs.toArray c) (by k_memK)).1
            have hSh : ∀ sl ∈ S, ∃ o, h.get? sl.a = some o := fun sl hs => ⟨_, (N2 (sl.a, W.listOf (itemsOf sl.zs) sl.c) (by simp [tsOf, List.mem_map.mpr ⟨sl, hs, rfl⟩])).1⟩
            have hIdx := hID (dx, emptyDict) (by simp)
            have hI50 := hID (50, tabObj #[]) (by simp)
            clear F2 N2 N3
            (repeat' (first | (k_unfold; (try dsimp only)) | ((with_reducible show wpAny _ _ _ _ _ _); (fail_if_success (with_reducible show wpAny _ _ (exec (Stmt.While _ _ _ _) _) _ _ _)); (fail_if_success (with_reducible show wpAny _ _ (exec (Stmt.For _ _ _ _ _) _) _ _ _)); (fail_if_success (with_reducible show wpAny _ _ (eval (Expr.ListComp _ _ _ _) _) _ _ _)); (fail_if_success (with_reducible show wpAny _ _ (exec (Stmt.Assign [_] (Expr.ListComp _ _ _ _) _) _) _ _ _)); (first | walk1 | (dsimp only; walk1)); (try dsimp only)) | ((with_reducible show (Frag.In _ _ ∧ _)); walk1; (try dsimp only)) | ((with_reducible show ite _ _ _); walk1; (try dsimp only))))
            refine ⟨rfl, h4, tk4, _, WW, rfl, F4, ⟨rfl, rfl, rfl, rfl, rfl⟩, ?_, ?_, ?_, ?_, ?_⟩
            · have q : decide (e ≤ (i : Int)) = true := by simp; omega
              rw [q]; simpa [DP] using hW
            · intro p hp
              refine N4 p ?_
              (revert p; repeat' first | exact List.forall_mem_nil _ | (refine List.forall_mem_cons.mpr ⟨?_, ?_⟩) | (refine List.forall_mem_append.mpr ⟨?_, ?_⟩) | k_memK | (intro p hp; k_memK))
            · intro sl hs p hp
              obtain ⟨o, ho⟩ := hSh sl hs
              exact hWo p hp _ o (fun q => (o1 sl hs).2.2 (dx, emptyDict) (by simp) q.symm) (fun q => (o1 sl hs).2.2 (50, tabObj #[]) (by simp) q.symm) ho
            · intro p hp
              exact ⟨hWo p hp _ _ hxd hx5 hxh, hWo p hp _ _ hrd.symm hr5.symm hrh, hWo p hp _ _ hIdx.symm hI50.symm hI⟩
            · obtain ⟨_, _, _, _, _, _, _, _, _, _, _, z, _⟩ := hW
              exact z
        · have c1 : ¬ (i : Int) = e := by assumption
          refine ⟨rfl, h, tk, _, D, rfl, F2, ⟨rfl, rfl, rfl, rfl, rfl⟩, ?_, N2, fun sl hs p hp => (o1 sl hs).2.2 p hp, fun p hp => ⟨(o2 p hp).1, (o2 p hp).2, hID p hp⟩, o3⟩
          have q : decide (e ≤ (i : Int)) = decide (e < (i : Int)) := by
            rw [Bool.eq_iff_iff]; simp only [decide_eq_true_iff]; omega
          rw [q]; exact d
      · rintro f s' ⟨rfl, h3, tk3, m3, D3, rfl, F3, ⟨b0, b1, b2, b3, b4⟩, d3, N3, o5, o6, o7⟩
        have F4 : Fr g L' h3 _ := known5 (a := "hour") (b := "bells") (c := "book") (d := "edge") (e := "rung") F3 b0 b1 b2 b3 b4
        clear F2 N2 F3
        (repeat' (first | (k_unfold; (try dsimp only)) | ((with_reducible show wpAny _ _ _ _ _ _); (fail_if_success (with_reducible show wpAny _ _ (exec (Stmt.While _ _ _ _) _) _ _ _)); (fail_if_success (with_reducible show wpAny _ _ (exec (Stmt.For _ _ _ _ _) _) _ _ _)); (fail_if_success (with_reducible show wpAny _ _ (eval (Expr.ListComp _ _ _ _) _) _ _ _)); (fail_if_success (with_reducible show wpAny _ _ (exec (Stmt.Assign [_] (Expr.ListComp _ _ _ _) _) _) _ _ _)); (first | walk1 | (dsimp only; walk1)); (try dsimp only)) | ((with_reducible show (Frag.In _ _ ∧ _)); walk1; (try dsimp only)) | ((with_reducible show ite _ _ _); walk1; (try dsimp only))))
        have hlS2 : S.length ≤ 59 + 11 * 60 := by
          have := Nat.mul_le_mul (show i ≤ 11 by omega) (show bs.length + 1 ≤ 60 by omega)
          omega
        have fzk : ∀ {S2 : List SL}, (∃ sl ∈ S2, sl.k = (i : Int)) → (decide (e ≤ (i : Int)) = true → S2 = S) → Keys S2 = (if (i : Int) ∈ Keys S then Keys S else Keys S ++ [(i : Int)]) → simLook (decide (e ≤ (i : Int))) (simTo e bs i) (i : Int) = ((simTo e bs i).1, Keys S2) := by
          rintro S2 ⟨sl, hs, hk⟩ h1 h2
          unfold simLook
          rw [← ks]
          by_cases hin : (i : Int) ∈ Keys S
          · rw [if_pos hin]
            rw [if_pos hin] at h2
            rw [h2, ks]
          · rw [if_neg hin]
            rw [if_neg hin] at h2
            cases hf : decide (e ≤ (i : Int)) with
            | true =>
              rw [h1 hf] at hs
              exact absurd (List.mem_map.mpr ⟨sl, hs, hk⟩) hin
            | false => simp only [Bool.false_eq_true, if_false]; rw [h2]
        have hxo : ∀ p ∈ [(r, W.listOf rs.toArray c), (I, ritObj ra rl rc)] ++ ((D3 ++ T) ++ tsOf S), p.1 ≠ x := by
          intro p hp
          simp only [List.mem_cons, List.mem_append, List.not_mem_nil, or_false] at hp
          rcases hp with (rfl | rfl) | (hp | hp) | hp
          · exact hrx.symm
          · exact hIx
          · exact (o6 p hp).1
          · intro q
            have h1 := (N3 p (by k_memK)).1
            have h2 := (N3 _ (List.Mem.head _)).1
            dsimp only at h2
            obtain ⟨q1, _⟩ := aT.tups p hp
            rw [q, h2] at h1
            rw [← Option.some.inj h1] at q1; cases q1
          · obtain ⟨sl, hs, rfl⟩ := List.mem_map.mp hp
            exact (o1 sl hs).1
        refine sub_any (pre := [(r, W.listOf rs.toArray c), (I, ritObj ra rl rc)]) (D := D3) (T := T) (S := S) (nb := nb2) G Kg (hA.less (e := 5) (by decide)).deeper hx1 d3 F4 N3 hxo (by omega) ?_ ?_
        · intro h5 tk5 a S2 nb5 F5 N5 hcase hfz
          simp only [List.cons_append, List.nil_append] at N5
          clear F4 N3
          obtain ⟨sl, hsl, rfl, hk2, good2, keys2, off2, hlS3, hzl⟩ := case_good (l := [x, r, I] ++ D3.map (·.1)) gd (fun sl hs q => by
            simp only [List.mem_cons, List.mem_append, List.not_mem_nil, or_false] at q
            rcases q with (q | q | q) | q
            · exact (o1 sl hs).1 q
            · exact (o1 sl hs).2.1 q
            · exact hIS sl hs q
            · obtain ⟨p, hp, e1⟩ := List.mem_map.mp q
              exact o5 sl hs p hp e1) hcase (by
            intro b hb
            simp only [List.mem_cons, List.mem_append, List.not_mem_nil, or_false, List.map_cons, List.map_append, List.map_nil] at hb ⊢
            rcases hb with (h | h | h) | h <;> simp [h])
          have st2 := fzk ⟨sl, hsl, hk2⟩ hfz keys2
          have run2 : simRing (decide (e ≤ (i : Int))) bs (i : Int) ((simTo e bs i).1, Keys S2) (mem bs.length (simTo e bs i).1 (i : Int)) = simTo e bs (i + 1) := by
            rw [simTo_succ, simHour, st2]
          have rin2 := (simRings_succ e bs i).symm
          (repeat' (first | (k_unfold; (try dsimp only)) | ((with_reducible show wpAny _ _ _ _ _ _); (fail_if_success (with_reducible show wpAny _ _ (exec (Stmt.While _ _ _ _) _) _ _ _)); (fail_if_success (with_reducible show wpAny _ _ (exec (Stmt.For _ _ _ _ _) _) _ _ _)); (fail_if_success (with_reducible show wpAny _ _ (eval (Expr.ListComp _ _ _ _) _) _ _ _)); (fail_if_success (with_reducible show wpAny _ _ (exec (Stmt.Assign [_] (Expr.ListComp _ _ _ _) _) _) _ _ _)); (first | walk1 | (dsimp only; walk1)); (try dsimp only)) | ((with_reducible show (Frag.In _ _ ∧ _)); walk1; (try dsimp only)) | ((with_reducible show ite _ _ _); walk1; (try dsimp only))))
          rename Fr _ _ _ _ => F6
          rename News _ _ _ _ => N6
          refine While_inv2 (JWr x dx r I bl ra rl rc e i t te D3 bs) F6 N6
            ⟨(simTo e bs i).1, S2, nb5, T, rs, c, _, sl, rfl, ⟨rfl, rfl, rfl, rfl, rfl, rfl⟩, aT, good2, ⟨hsl, hk2⟩, rfl, rin2, run2, off2, by have := mem_len bs.length (simTo e bs i).1 (i : Int); omega⟩ ?_ PassesOwn.never
          rintro n m1 nx h6 tk6 F7 N7 ⟨σ, S3, nb6, T3, rs3, c3, ps, sl3, rfl, ⟨f1, f2, f3, f4, f5, f6⟩, aT3, gd3, ⟨hs3, hk3⟩, rfl, rin3, run3, off4, hl3⟩
          have F8 : Fr g L' h6 _ := known6 (a := "hour") (b := "bells") (c := "book") (d := "edge") (e := "rung") (f := "slot") F7 f1 f2 f3 f4 f5 f6
          clear F6 N6 F7
          have itm3 := gd3.itm sl3 hs3
          have hslN : (sl3.a, W.listOf (itemsOf sl3.zs) sl3.c) ∈ tsOf S3 := List.mem_map.mpr ⟨sl3, hs3, rfl⟩
          have lenz : sl3.zs.length = (mem bs.length σ (i : Int)).length := by
            have := (gd3.perm sl3 hs3).length_eq
            rw [List.length_map, hk3] at this; exact this
          (repeat' (first | (k_unfold; (try dsimp only)) | ((with_reducible show wpAny _ _ _ _ _ _); (fail_if_success (with_reducible show wpAny _ _ (exec (Stmt.While _ _ _ _) _) _ _ _)); (fail_if_success (with_reducible show wpAny _ _ (exec (Stmt.For _ _ _ _ _) _) _ _ _)); (fail_if_success (with_reducible show wpAny _ _ (eval (Expr.ListComp _ _ _ _) _) _ _ _)); (fail_if_success (with_reducible show wpAny _ _ (exec (Stmt.Assign [_] (Expr.ListComp _ _ _ _) _) _) _ _ _)); (first | walk1 | (dsimp only; walk1)); (try dsimp only)) | ((with_reducible show (Frag.In _ _ ∧ _)); walk1; (try dsimp only)) | ((with_reducible show ite _ _ _); walk1; (try dsimp only))))
          rename Fr _ _ _ _ => F9
          rename News _ _ _ (_ :: _ :: _ :: _ :: _) => N9
          refine ne_intsK (vs := sl3.zs.map Prod.fst) (us := []) (ms := []) ⟨_, (N9 (sl3.a, W.listOf (itemsOf sl3.zs) sl3.c) (by simp [hslN])).1, rfl, _, rfl⟩ (ints_of itm3) ⟨_, (N9 _ (List.Mem.head _)).1, rfl, _, rfl⟩ .nil (by have := hA.uni; simp only [units_deeper]; omega) ?_
          rcases List.eq_nil_or_concat sl3.zs with hz | ⟨zs, z, hz⟩
          · rw [hz]
            simp only [List.map_nil, decide_true, Bool.not_true]
            have hm0 : mem bs.length σ (i : Int) = [] := List.eq_nil_of_length_eq_zero (by rw [← lenz, hz]; rfl)
            rw [hm0] at rin3 run3 hl3
            simp only [List.map_nil, List.append_nil] at rin3
            have run4 : simTo e bs (i + 1) = (σ, Keys S3) := run3.symm
            have edec : decide (e < ((i + 1 : Nat) : Int)) = decide (e ≤ (i : Int)) := by
              rw [Bool.eq_iff_iff]; simp only [decide_eq_true_iff]; omega
            have ebnd : bs.length + (i + 1) * (bs.length + 1) = bs.length + i * (bs.length + 1) + 1 + bs.length := by rw [Nat.add_mul]; omega
            (repeat' (first | (k_unfold; (try dsimp only)) | ((with_reducible show wpAny _ _ _ _ _ _); (fail_if_success (with_reducible show wpAny _ _ (exec (Stmt.While _ _ _ _) _) _ _ _)); (fail_if_success (with_reducible show wpAny _ _ (exec (Stmt.For _ _ _ _ _) _) _ _ _)); (fail_if_success (with_reducible show wpAny _ _ (eval (Expr.ListComp _ _ _ _) _) _ _ _)); (fail_if_success (with_reducible show wpAny _ _ (exec (Stmt.Assign [_] (Expr.ListComp _ _ _ _) _) _) _ _ _)); (first | walk1 | (dsimp only; walk1)); (try dsimp only)) | ((with_reducible show (Frag.In _ _ ∧ _)); walk1; (try dsimp only)) | ((with_reducible show ite _ _ _); walk1; (try dsimp only))))
            refine ⟨_, _, _, rfl, (N9 (I, ritObj ra rl rc) (by k_memK)).1, F9, ⟨rfl, rfl, rfl, rfl⟩, S3, nb6, D3, T3, rs3, c3, by rw [edec]; exact d3, ?_, by rw [← rin3]; exact aT3, by rw [run4]; exact gd3, by rw [run4], ?_, by rw [ebnd]; simpa using hl3, fun p hp => ⟨(o6 p hp).1, (o6 p hp).2.1⟩, o7⟩
            · intro p hp
              refine N9 p ?_
              (revert p; repeat' first | exact List.forall_mem_nil _ | (refine List.forall_mem_cons.mpr ⟨?_, ?_⟩) | (refine List.forall_mem_append.mpr ⟨?_, ?_⟩) | k_memK | (intro p hp; k_memK))
            · intro s4 hs4
              have := off4 s4 hs4
              simp only [List.mem_append, List.mem_cons, List.not_mem_nil, or_false, not_or] at this
              exact ⟨this.1.1, this.1.2.1, fun p hp q => this.2 (q ▸ List.mem_map.mpr ⟨p, hp, rfl⟩)⟩
          · rw [List.concat_eq_append] at hz
            have hne : decide (sl3.zs.map (fun x : Z => x.2.1) = []) = false := by rw [hz]; simp
            rw [hne]
            simp only [Bool.not_false]
            have N10 : News g L' _ (([(x, bookObj dx (ents (kvOf S3)) nb6), (r, W.listOf rs3.toArray c3), (I, ritObj ra rl rc)] ++ (D3 ++ T3)) ++ tsOf S3) := fun p hp => N9 p (List.Mem.tail _ hp)
            clear N9
            have hoffs : ∀ sl ∈ S3, ∀ p ∈ [(x, bookObj dx (ents (kvOf S3)) nb6), (r, W.listOf rs3.toArray c3), (I, ritObj ra rl rc)] ++ (D3 ++ T3), p.1 ≠ sl.a := by
              intro s4 hs4 p hp q
              have := off4 s4 hs4
              simp only [List.mem_append, List.mem_cons, List.not_mem_nil, or_false, not_or] at this hp
              rcases hp with (rfl | rfl | rfl) | hp | hp
              · exact this.1.1 q.symm
              · exact this.1.2.1 q.symm
              · exact this.1.2.2 q.symm
              · exact this.2 (q ▸ List.mem_map.mpr ⟨p, hp, rfl⟩)
              · have h1 := (N10 p (by k_memK)).1
                have h2 := (N10 (s4.a, W.listOf (itemsOf s4.zs) s4.c) (List.mem_append_right _ (List.mem_map.mpr ⟨s4, hs4, rfl⟩))).1
                dsimp only at h2
                obtain ⟨q1, _⟩ := aT3.tups p hp
                rw [q, h2] at h1
                rw [← Option.some.inj h1] at q1; exact ty_ne (by decide) q1
            have hzN : zs.length < 60 := by
              have h1 := mem_len bs.length σ (i : Int)
              rw [← lenz, hz] at h1
              simp at h1; omega
            obtain ⟨nn, tn, hnN, hσ, hval, hmin, hgood⟩ := gd3.pop hs3 hz
            (repeat' (first | (k_unfold; (try dsimp only)) | ((with_reducible show wpAny _ _ _ _ _ _); (fail_if_success (with_reducible show wpAny _ _ (exec (Stmt.While _ _ _ _) _) _ _ _)); (fail_if_success (with_reducible show wpAny _ _ (exec (Stmt.For _ _ _ _ _) _) _ _ _)); (fail_if_success (with_reducible show wpAny _ _ (eval (Expr.ListComp _ _ _ _) _) _ _ _)); (fail_if_success (with_reducible show wpAny _ _ (exec (Stmt.Assign [_] (Expr.ListComp _ _ _ _) _) _) _ _ _)); (first | walk1 | (dsimp only; walk1)); (try dsimp only)) | ((with_reducible show (Frag.In _ _ ∧ _)); walk1; (try dsimp only)) | ((with_reducible show ite _ _ _); walk1; (try dsimp only))))
            refine pop_slot (hdl := [(x, bookObj dx (ents (kvOf S3)) nb6), (r, W.listOf rs3.toArray c3), (I, ritObj ra rl rc)] ++ (D3 ++ T3)) (S := S3) (sl := sl3) G Kg (hA.less (e := 6) (by decide)).deeper F9 N10 hs3 (hoffs sl3 hs3) hz itm3 (by omega) ?_
            intro h10 tk10 c10 F10 N11
            rw [hval]
            have gd10 := hgood c10
            clear F9 N10
            have N12 : News g L' h10 ((x, bookObj dx (ents (kvOf S3)) nb6) :: (r, W.listOf rs3.toArray c3) :: (I, ritObj ra rl rc) :: ((D3 ++ T3) ++ tsOf (setS S3 sl3.a (popL zs z) c10))) := N11
            clear N11
            (repeat' (first | (k_unfold; (try dsimp only)) | ((with_reducible show wpAny _ _ _ _ _ _); (fail_if_success (with_reducible show wpAny _ _ (exec (Stmt.While _ _ _ _) _) _ _ _)); (fail_if_success (with_reducible show wpAny _ _ (exec (Stmt.For _ _ _ _ _) _) _ _ _)); (fail_if_success (with_reducible show wpAny _ _ (eval (Expr.ListComp _ _ _ _) _) _ _ _)); (fail_if_success (with_reducible show wpAny _ _ (exec (Stmt.Assign [_] (Expr.ListComp _ _ _ _) _) _) _ _ _)); (first | walk1 | (dsimp only; walk1)); (try dsimp only)) | ((with_reducible show (Frag.In _ _ ∧ _)); walk1; (try dsimp only)) | ((with_reducible show ite _ _ _); walk1; (try dsimp only))))
            rename Fr _ _ _ _ => F13
            rename News _ _ _ (_ :: _ :: _ :: _ :: _) => N13
            rename Addr => Tq
            have hTr : ∀ p ∈ (D3 ++ T3) ++ tsOf (setS S3 sl3.a (popL zs z) c10), p.1 ≠ r := by
              intro p hp q
              simp only [List.mem_append] at hp
              rcases hp with (hp | hp) | hp
              · exact (o6 p hp).2.1 q
              · have h1 := (N13 p (by k_memK)).1
                have h2 := (N13 (r, W.listOf rs3.toArray c3) (by k_memK)).1
                dsimp only at h2
                obtain ⟨q1, _⟩ := aT3.tups p hp
                rw [q, h2] at h1
                rw [← Option.some.inj h1] at q1; exact ty_ne (by decide) q1
              · obtain ⟨s4, hs4, rfl⟩ := List.mem_map.mp hp
                rcases mem_setS hs4 with ⟨h1, _⟩ | ⟨s5, hs5, e5, rfl⟩
                · have := off4 s4 h1
                  simp only [List.mem_append, List.mem_cons, List.not_mem_nil, or_false, not_or] at this
                  exact this.1.2.1 q
                · have := off4 s5 hs5
                  simp only [List.mem_append, List.mem_cons, List.not_mem_nil, or_false, not_or] at this
                  exact this.1.2.1 q
            have hT'r := (N13 _ (List.Mem.head _)).1
            refine append_K (its := rs3.toArray) (n := c3) F13 N13 (.tail ?_ (.tail hrx (.head ?_))) ?_ ?_
            · intro q
              have h2 := (N13 (r, W.listOf rs3.toArray c3) (by k_memK)).1
              dsimp only at h2 hT'r q
              rw [q, h2] at hT'r
              exact ty_ne (by decide) (congrArg Obj.cls (Option.some.inj hT'r))
            · intro p hp
              rcases List.mem_cons.mp hp with rfl | hp
              · exact hIr
              · exact hTr p hp
            · intro h14 F14 N14
              rw [List.push_toArray] at N14
              clear F13 N13
              obtain ⟨ab, hab⟩ : ∃ p, bs[nn]? = some p := ⟨bs[nn], by simp [hnN]⟩
              obtain ⟨Ti, ta, tb, nt, hv, hT⟩ := htg.get nn ab hab
              have hbi := hbb ab (List.mem_of_getElem? hab)
              have eB : bellB bs nn = ab.2 := by unfold bellB; rw [List.getD_eq_getElem?_getD, hab]; rfl
              (repeat' (first | (k_unfold; (try dsimp only)) | ((with_reducible show wpAny _ _ _ _ _ _); (fail_if_success (with_reducible show wpAny _ _ (exec (Stmt.While _ _ _ _) _) _ _ _)); (fail_if_success (with_reducible show wpAny _ _ (exec (Stmt.For _ _ _ _ _) _) _ _ _)); (fail_if_success (with_reducible show wpAny _ _ (eval (Expr.ListComp _ _ _ _) _) _ _ _)); (fail_if_success (with_reducible show wpAny _ _ (exec (Stmt.Assign [_] (Expr.ListComp _ _ _ _) _) _) _ _ _)); (first | walk1 | (dsimp only; walk1)); (try dsimp only)) | ((with_reducible show (Frag.In _ _ ∧ _)); walk1; (try dsimp only)) | ((with_reducible show ite _ _ _); walk1; (try dsimp only))))
              refine bell_item (F14.keep _ _ hblg) (by omega) (by rw [Int.toNat_natCast]; exact hv) ?_
              (repeat' (first | (k_unfold; (try dsimp only)) | ((with_reducible show wpAny _ _ _ _ _ _); (fail_if_success (with_reducible show wpAny _ _ (exec (Stmt.While _ _ _ _) _) _ _ _)); (fail_if_success (with_reducible show wpAny _ _ (exec (Stmt.For _ _ _ _ _) _) _ _ _)); (fail_if_success (with_reducible show wpAny _ _ (eval (Expr.ListComp _ _ _ _) _) _ _ _)); (fail_if_success (with_reducible show wpAny _ _ (exec (Stmt.Assign [_] (Expr.ListComp _ _ _ _) _) _) _ _ _)); (first | walk1 | (dsimp only; walk1)); (try dsimp only)) | ((with_reducible show (Frag.In _ _ ∧ _)); walk1; (try dsimp only)) | ((with_reducible show ite _ _ _); walk1; (try dsimp only))))
              refine tup_item1 (F14.keep _ _ hT) ?_
              (repeat' (first | (k_unfold; (try dsimp only)) | ((with_reducible show wpAny _ _ _ _ _ _); (fail_if_success (with_reducible show wpAny _ _ (exec (Stmt.While _ _ _ _) _) _ _ _)); (fail_if_success (with_reducible show wpAny _ _ (exec (Stmt.For _ _ _ _ _) _) _ _ _)); (fail_if_success (with_reducible show wpAny _ _ (eval (Expr.ListComp _ _ _ _) _) _ _ _)); (fail_if_success (with_reducible show wpAny _ _ (exec (Stmt.Assign [_] (Expr.ListComp _ _ _ _) _) _) _ _ _)); (first | walk1 | (dsimp only; walk1)); (try dsimp only)) | ((with_reducible show (Frag.In _ _ ∧ _)); walk1; (try dsimp only)) | ((with_reducible show ite _ _ _); walk1; (try dsimp only))))
              have N15 : News g L' h14 ((x, bookObj dx (ents (kvOf (setS S3 sl3.a (popL zs z) c10))) nb6) :: ([(r, W.listOf (rs3 ++ [Value.ref Tq]).toArray (c3 + 1)), (I, ritObj ra rl rc)] ++ ((D3 ++ ((Tq, tup2 (i : Int) (nn : Int) t tn 0) :: T3)) ++ tsOf (setS S3 sl3.a (popL zs z) c10)))) := by
                rw [kvOf_setS]
                intro p hp
                refine N14 p ?_
                simp only [List.mem_cons, List.mem_append, List.not_mem_nil, or_false] at hp ⊢
                rcases hp with h | (h | h) | (h | h | h) | h
                · exact .inr (.inl h)
                · exact .inr (.inr (.inl h))
                · exact .inr (.inr (.inr (.inl h)))
                · exact .inr (.inr (.inr (.inr (.inl (.inl h)))))
                · exact .inl h
                · exact .inr (.inr (.inr (.inr (.inl (.inr h)))))
                · exact .inr (.inr (.inr (.inr (.inr h))))
              clear N14
              have aT5 : TupsIn ((Tq, tup2 (i : Int) (nn : Int) t tn 0) :: T3) (rs3 ++ [Value.ref Tq]) (ps ++ [((i : Int), (nn : Int))]) := TupsIn.snoc aT3
              have hxh := (N15 _ (List.Mem.head _)).1
              dsimp only at hxh
              have hxo5 : ∀ p ∈ [(r, W.listOf (rs3 ++ [Value.ref Tq]).toArray (c3 + 1)), (I, ritObj ra rl rc)] ++ ((D3 ++ ((Tq, tup2 (i : Int) (nn : Int) t tn 0) :: T3)) ++ tsOf (setS S3 sl3.a (popL zs z) c10)), p.1 ≠ x := by
                intro p hp
                have hpn := (N15 p (List.Mem.tail _ hp)).1
                rcases List.mem_append.mp hp with hp | hp
                · simp only [List.mem_cons, List.not_mem_nil, or_false] at hp
                  rcases hp with rfl | rfl
                  · exact hrx.symm
                  · exact hIx
                · rcases List.mem_append.mp hp with hp | hp
                  · rcases List.mem_append.mp hp with hp | hp
                    · exact (o6 p hp).1
                    · intro q
                      obtain ⟨q1, _⟩ := aT5.tups p hp
                      rw [q, hxh] at hpn
                      rw [← Option.some.inj hpn] at q1; cases q1
                  · intro q
                    have q1 := tsOf_cls p hp
                    rw [q, hxh] at hpn
                    rw [← Option.some.inj hpn] at q1; cases q1
              have hS3 : S3.length ≤ 900 := by
                have := Nat.mul_le_mul (show i ≤ 11 by omega) (show bs.length + 1 ≤ 60 by omega)
                omega
              have offS : Off (setS S3 sl3.a (popL zs z) c10) ([x, r, I] ++ D3.map (·.1)) := off_setS off4
              obtain ⟨t1, ht1, hk6, ha6⟩ := setS_mem (a := sl3.a) (zs := popL zs z) (c := c10) hs3
              have hσ5 : upd σ nn none nn = none := upd_self σ nn
              have hzi : ∀ h, Itm h false ((.int (nn : Int) tn, ((nn : Int), 0)) : Z) := fun h => ⟨tn, rfl, rfl⟩
              have hσi : σ nn = some (i : Int) := by rw [← hk3]; exact hσ
              have hmini : ∀ j ∈ mem bs.length σ (i : Int), (nn : Int) ≤ j := by rw [← hk3]; exact hmin
              refine sub_any (pre := [(r, W.listOf (rs3 ++ [Value.ref Tq]).toArray (c3 + 1)), (I, ritObj ra rl rc)]) (D := D3) (T := (Tq, tup2 (i : Int) (nn : Int) t tn 0) :: T3) (S := setS S3 sl3.a (popL zs z) c10) (nb := nb6) G Kg (hA.less (e := 5) (by decide)).deeper hx1 d3 F14 N15 hxo5 (by rw [setS_length]; exact hS3) ?_ ?_
              · intro h15 tk15 a S5 nb15 F15 N16 hcase5 hfz5
                simp only [List.cons_append, List.nil_append] at N16
                clear F14 N15
                have hmono : ∀ t ∈ setS S3 sl3.a (popL zs z) c10, t ∈ S5 := fun t ht => by
                  rcases hcase5 with ⟨e1, _⟩ | ⟨_, _, _, e1, _⟩
                  · rw [e1]; exact ht
                  · rw [e1]; exact List.mem_append_left _ ht
                obtain ⟨sl5, hsl5, rfl, hk5, good5, keys5, off5, hlS5, hzl5⟩ := case_good (l := [x, r, I] ++ D3.map (·.1)) gd10 offS hcase5 (by
                  intro b hb
                  simp only [List.mem_cons, List.mem_append, List.not_mem_nil, or_false, List.map_cons, List.map_append, List.map_nil] at hb ⊢
                  rcases hb with (h | h | h) | h <;> simp [h])
                have N17 : News g L' h15 (([(x, bookObj dx (ents (kvOf S5)) nb15), (r, W.listOf (rs3 ++ [Value.ref Tq]).toArray (c3 + 1)), (I, ritObj ra rl rc)] ++ (D3 ++ ((Tq, tup2 (i : Int) (nn : Int) t tn 0) :: T3))) ++ tsOf S5) := N16
                clear N16
                have hoffs5 : ∀ p ∈ [(x, bookObj dx (ents (kvOf S5)) nb15), (r, W.listOf (rs3 ++ [Value.ref Tq]).toArray (c3 + 1)), (I, ritObj ra rl rc)] ++ (D3 ++ ((Tq, tup2 (i : Int) (nn : Int) t tn 0) :: T3)), p.1 ≠ sl5.a := by
                  intro p hp
                  have h1 := (N17 p (List.mem_append_left _ hp)).1
                  have h2 := (N17 (sl5.a, W.listOf (itemsOf sl5.zs) sl5.c) (List.mem_append_right _ (List.mem_map.mpr ⟨sl5, hsl5, rfl⟩))).1
                  have ho := off5 sl5 hsl5
                  simp only [List.mem_append, List.mem_cons, List.not_mem_nil, or_false, not_or] at ho
                  rcases List.mem_append.mp hp with hp | hp
                  · simp only [List.mem_cons, List.not_mem_nil, or_false] at hp
                    rcases hp with rfl | rfl | rfl
                    · exact fun q => ho.1.1 q.symm
                    · exact fun q => ho.1.2.1 q.symm
                    · exact fun q => ho.1.2.2 q.symm
                  · rcases List.mem_append.mp hp with hp | hp
                    · exact fun q => ho.2 (q ▸ List.mem_map.mpr ⟨p, hp, rfl⟩)
                    · intro q
                      obtain ⟨q1, _⟩ := aT5.tups p hp
                      dsimp only at h2
                      rw [q, h2] at h1
                      rw [← Option.some.inj h1] at q1; exact ty_ne (by decide) q1
                (repeat' (first | (k_unfold; (try dsimp only)) | ((with_reducible show wpAny _ _ _ _ _ _); (fail_if_success (with_reducible show wpAny _ _ (exec (Stmt.While _ _ _ _) _) _ _ _)); (fail_if_success (with_reducible show wpAny _ _ (exec (Stmt.For _ _ _ _ _) _) _ _ _)); (fail_if_success (with_reducible show wpAny _ _ (eval (Expr.ListComp _ _ _ _) _) _ _ _)); (fail_if_success (with_reducible show wpAny _ _ (exec (Stmt.Assign [_] (Expr.ListComp _ _ _ _) _) _) _ _ _)); (first | walk1 | (dsimp only; walk1)); (try dsimp only)) | ((with_reducible show (Frag.In _ _ ∧ _)); walk1; (try dsimp only)) | ((with_reducible show ite _ _ _); walk1; (try dsimp only))))
                refine push_slot (hdl := [(x, bookObj dx (ents (kvOf S5)) nb15), (r, W.listOf (rs3 ++ [Value.ref Tq]).toArray (c3 + 1)), (I, ritObj ra rl rc)] ++ (D3 ++ ((Tq, tup2 (i : Int) (nn : Int) t tn 0) :: T3))) (S := S5) (sl := sl5) (z := (.int (nn : Int) tn, ((nn : Int), 0))) G Kg (hA.less (e := 6) (by decide)).deeper F15 N17 hsl5 hoffs5 rfl (good5.itm sl5 hsl5) hzi (by omega) ?_
                intro h18 tk18 c18 F18 N18
                clear F15 N17
                have good6 := good5.push hsl5 hnN hσ5 hzi rfl c18
                rw [upd_upd] at good6
                have N19 : News g L' h18 ((x, bookObj dx (ents (kvOf (setS S5 sl5.a (pushL sl5.zs (.int (nn : Int) tn, ((nn : Int), 0))) c18))) nb15) :: (r, W.listOf (rs3 ++ [Value.ref Tq]).toArray (c3 + 1)) :: (I, ritObj ra rl rc) :: ((D3 ++ ((Tq, tup2 (i : Int) (nn : Int) t tn 0) :: T3)) ++ tsOf (setS S5 sl5.a (pushL sl5.zs (.int (nn : Int) tn, ((nn : Int), 0))) c18))) := by
                  rw [kvOf_setS]; exact N18
                clear N18
                obtain ⟨t2, ht2, hk7, ha7⟩ := setS_mem (a := sl5.a) (zs := pushL sl5.zs (.int (nn : Int) tn, ((nn : Int), 0))) (c := c18) (hmono t1 ht1)
                have hkey : sl5.k = (i : Int) + bellB bs nn := by rw [eB]; exact hk5
                have em : mem bs.length σ (i : Int) = (nn : Int) :: mem bs.length (upd σ nn (some sl5.k)) (i : Int) := mem_head hnN hσi hmini (by rw [hk5]; intro q; have := Option.some.inj q; omega)
                have est : simPush (decide (e ≤ (i : Int))) (σ, Keys S3) nn ((i : Int) + bellB bs nn) = (upd σ nn (some sl5.k), Keys (setS S5 sl5.a (pushL sl5.zs (.int (nn : Int) tn, ((nn : Int), 0))) c18)) := by
                  rw [keys_setS, hkey]
                  refine push_hit ?_ fun hf => ?_
                  · rw [keys_setS] at keys5
                    rw [keys5, eB]
                  · rw [hfz5 hf, keys_setS]
                rw [em] at rin3 run3 hl3
                have run4 : simRing (decide (e ≤ (i : Int))) bs (i : Int) (simPush (decide (e ≤ (i : Int))) (σ, Keys S3) nn ((i : Int) + bellB bs nn)) (mem bs.length (upd σ nn (some sl5.k)) (i : Int)) = simTo e bs (i + 1) := run3
                rw [est] at run4
                (repeat' (first | (k_unfold; (try dsimp only)) | ((with_reducible show wpAny _ _ _ _ _ _); (fail_if_success (with_reducible show wpAny _ _ (exec (Stmt.While _ _ _ _) _) _ _ _)); (fail_if_success (with_reducible show wpAny _ _ (exec (Stmt.For _ _ _ _ _) _) _ _ _)); (fail_if_success (with_reducible show wpAny _ _ (eval (Expr.ListComp _ _ _ _) _) _ _ _)); (fail_if_success (with_reducible show wpAny _ _ (exec (Stmt.Assign [_] (Expr.ListComp _ _ _ _) _) _) _ _ _)); (first | walk1 | (dsimp only; walk1)); (try dsimp only)) | ((with_reducible show (Frag.In _ _ ∧ _)); walk1; (try dsimp only)) | ((with_reducible show ite _ _ _); walk1; (try dsimp only))))
                refine ⟨_, _, _, _, (mem bs.length (upd σ nn (some sl5.k)) (i : Int)).length, rfl, F18, N19, ?_, upd σ nn (some sl5.k), _, nb15, (Tq, tup2 (i : Int) (nn : Int) t tn 0) :: T3, _, c3 + 1, ps ++ [((i : Int), (nn : Int))], t2, rfl, ⟨rfl, rfl, rfl, rfl, rfl, ?_⟩, aT5, good6, ⟨ht2, by rw [hk7, hk6, hk3]⟩, rfl, ?_, run4, off_setS off5, ?_⟩
                · rw [em, List.length_cons]; omega
                · rw [ha7, ha6]; rfl
                · rw [← rin3]; simp
                · rw [setS_length]
                  rw [setS_length] at hlS5
                  rw [List.length_cons] at hl3
                  omega
              · intro h15 tk15 a c15 hfz5 hnk5 F15 N16 hnew5 hga5 haL5 hoff5
                simp only [List.cons_append, List.nil_append] at N16 hoff5
                clear F14 N15
                have hHa : H.get? a = none := by
                  cases z : H.get? a with
                  | none => rfl
                  | some o => have := Kg _ _ (by simp) z; rw [hga5] at this; cases this
                (repeat' (first | (k_unfold; (try dsimp only)) | ((with_reducible show wpAny _ _ _ _ _ _); (fail_if_success (with_reducible show wpAny _ _ (exec (Stmt.While _ _ _ _) _) _ _ _)); (fail_if_success (with_reducible show wpAny _ _ (exec (Stmt.For _ _ _ _ _) _) _ _ _)); (fail_if_success (with_reducible show wpAny _ _ (eval (Expr.ListComp _ _ _ _) _) _ _ _)); (fail_if_success (with_reducible show wpAny _ _ (exec (Stmt.Assign [_] (Expr.ListComp _ _ _ _) _) _) _ _ _)); (first | walk1 | (dsimp only; walk1)); (try dsimp only)) | ((with_reducible show (Frag.In _ _ ∧ _)); walk1; (try dsimp only)) | ((with_reducible show ite _ _ _); walk1; (try dsimp only))))
                refine heappush_spec (k := false) (z := (.int (nn : Int) tn, ((nn : Int), 0))) (zs := []) (n := c15) G (fun b o hb q => F15.keep _ _ (Kg b o hb q)) (hA.less (e := 6) (by decide)).deeper rfl hnew5 (fun y hy => by cases hy) (hzi _) hHa (by decide) ?_
                intro h18 tk18 c18 _ k18
                have F18 := after1 F15 k18 hga5 haL5
                have N19 : News g L' h18 ((x, bookObj dx (ents (kvOf (setS S3 sl3.a (popL zs z) c10))) nb6) :: (r, W.listOf (rs3 ++ [Value.ref Tq]).toArray (c3 + 1)) :: (I, ritObj ra rl rc) :: ((D3 ++ ((Tq, tup2 (i : Int) (nn : Int) t tn 0) :: T3)) ++ tsOf (setS S3 sl3.a (popL zs z) c10))) := fun p hp => ⟨k18 _ _ (by simpa using hoff5 p hp) (N16 p hp).1, (N16 p hp).2⟩
                clear F15 N16
                have em : mem bs.length σ (i : Int) = (nn : Int) :: mem bs.length (upd σ nn none) (i : Int) := mem_head hnN hσi hmini (by simp)
                have est : simPush (decide (e ≤ (i : Int))) (σ, Keys S3) nn ((i : Int) + bellB bs nn) = (upd σ nn none, Keys (setS S3 sl3.a (popL zs z) c10)) := by
                  rw [keys_setS, hfz5]
                  refine push_lost ?_
                  rw [← keys_setS S3 sl3.a (popL zs z) c10, eB]
                  exact keys_no hnk5
                rw [em] at rin3 run3 hl3
                have run4 : simRing (decide (e ≤ (i : Int))) bs (i : Int) (simPush (decide (e ≤ (i : Int))) (σ, Keys S3) nn ((i : Int) + bellB bs nn)) (mem bs.length (upd σ nn none) (i : Int)) = simTo e bs (i + 1) := run3
                rw [est] at run4
                (repeat' (first | (k_unfold; (try dsimp only)) | ((with_reducible show wpAny _ _ _ _ _ _); (fail_if_success (with_reducible show wpAny _ _ (exec (Stmt.While _ _ _ _) _) _ _ _)); (fail_if_success (with_reducible show wpAny _ _ (exec (Stmt.For _ _ _ _ _) _) _ _ _)); (fail_if_success (with_reducible show wpAny _ _ (eval (Expr.ListComp _ _ _ _) _) _ _ _)); (fail_if_success (with_reducible show wpAny _ _ (exec (Stmt.Assign [_] (Expr.ListComp _ _ _ _) _) _) _ _ _)); (first | walk1 | (dsimp only; walk1)); (try dsimp only)) | ((with_reducible show (Frag.In _ _ ∧ _)); walk1; (try dsimp only)) | ((with_reducible show ite _ _ _); walk1; (try dsimp only))))
                refine ⟨_, _, _, _, (mem bs.length (upd σ nn none) (i : Int)).length, rfl, F18, N19, ?_, upd σ nn none, _, nb6, (Tq, tup2 (i : Int) (nn : Int) t tn 0) :: T3, _, c3 + 1, ps ++ [((i : Int), (nn : Int))], t1, rfl, ⟨rfl, rfl, rfl, rfl, rfl, ?_⟩, aT5, gd10, ⟨ht1, by rw [hk6, hk3]⟩, rfl, ?_, run4, offS, ?_⟩
                · rw [em, List.length_cons]; omega
                · rw [ha6]; rfl
                · rw [← rin3]; simp
                · rw [setS_length]
                  rw [List.length_cons] at hl3
                  omega
            · rw [List.size_toArray, sizeLine_eq, aT3.length]
              have h1 := congrArg List.length rin3
              rw [List.length_append] at h1
              have h2 := simRings_len e bs (i + 1)
              have h3 := Nat.mul_le_mul (show i + 1 ≤ 12 by omega) (show bs.length ≤ 60 by omega)
              omega
        · intro h5 tk5 a c5 hfz hnk F5 N5 hnew hga haL hoff
          simp only [List.cons_append, List.nil_append] at N5
          clear F4 N3
          have hm0 := mem_nil gd hnk
          have e2 : simTo e bs (i + 1) = simTo e bs i := by
            rw [simTo_succ, simHour, hm0]
            unfold simRing simLook
            rw [← ks, if_neg (keys_no hnk), hfz]; rfl
          have e3 : simRings e bs (i + 1) = simRings e bs i := by rw [simRings_succ, hm0]; simp
          have edec : decide (e < ((i + 1 : Nat) : Int)) = decide (e ≤ (i : Int)) := by
            rw [Bool.eq_iff_iff]; simp only [decide_eq_true_iff]; omega
          have ebnd : bs.length + (i + 1) * (bs.length + 1) = bs.length + i * (bs.length + 1) + 1 + bs.length := by rw [Nat.add_mul]; omega
          have N6 : News g L' h5 ((a, W.listOf #[] c5) :: (x, bookObj dx (ents (kvOf S)) nb2) :: (r, W.listOf rs.toArray c) :: (I, ritObj ra rl rc) :: ((D3 ++ T) ++ tsOf S)) := fun p hp => by
            rcases List.mem_cons.mp hp with rfl | hp
            · exact ⟨hnew, haL, hga⟩
            · exact N5 p hp
          clear N5
          (repeat' (first | (k_unfold; (try dsimp only)) | ((with_reducible show wpAny _ _ _ _ _ _); (fail_if_success (with_reducible show wpAny _ _ (exec (Stmt.While _ _ _ _) _) _ _ _)); (fail_if_success (with_reducible show wpAny _ _ (exec (Stmt.For _ _ _ _ _) _) _ _ _)); (fail_if_success (with_reducible show wpAny _ _ (eval (Expr.ListComp _ _ _ _) _) _ _ _)); (fail_if_success (with_reducible show wpAny _ _ (exec (Stmt.Assign [_] (Expr.ListComp _ _ _ _) _) _) _ _ _)); (first | walk1 | (dsimp only; walk1)); (try dsimp only)) | ((with_reducible show (Frag.In _ _ ∧ _)); walk1; (try dsimp only)) | ((with_reducible show ite _ _ _); walk1; (try dsimp only))))
          rename Fr _ _ _ _ => F6
          rename News _ _ _ (_ :: _ :: _ :: _ :: _) => N7
          refine While_inv2 (n₀ := 0) (fun n m nx => nx = ((a, W.listOf #[] c5) :: (x, bookObj dx (ents (kvOf S)) nb2) :: (r, W.listOf rs.toArray c) :: (I, ritObj ra rl rc) :: ((D3 ++ T) ++ tsOf S)) ∧
            (m "hour" = some (.int (i : Int) t) ∧ m "bells" = some (.ref bl) ∧ m "book" = some (.ref x) ∧ m "edge" = some (.int e te) ∧ m "rung" = some (.ref r) ∧ m "slot" = some (.ref a))) F6 N7
            ⟨rfl, rfl, rfl, rfl, rfl, rfl, rfl⟩ ?_ PassesOwn.never
          rintro n m1 nx h6 tk6 F7 N8 ⟨rfl, f1, f2, f3, f4, f5, f6⟩
          have F8 : Fr g L' h6 _ := known6 (a := "hour") (b := "bells") (c := "book") (d := "edge") (e := "rung") (f := "slot") F7 f1 f2 f3 f4 f5 f6
          clear F6 N7 F7
          (repeat' (first | (k_unfold; (try dsimp only)) | ((with_reducible show wpAny _ _ _ _ _ _); (fail_if_success (with_reducible show wpAny _ _ (exec (Stmt.While _ _ _ _) _) _ _ _)); (fail_if_success (with_reducible show wpAny _ _ (exec (Stmt.For _ _ _ _ _) _) _ _ _)); (fail_if_success (with_reducible show wpAny _ _ (eval (Expr.ListComp _ _ _ _) _) _ _ _)); (fail_if_success (with_reducible show wpAny _ _ (exec (Stmt.Assign [_] (Expr.ListComp _ _ _ _) _) _) _ _ _)); (first | walk1 | (dsimp only; walk1)); (try dsimp only)) | ((with_reducible show (Frag.In _ _ ∧ _)); walk1; (try dsimp only)) | ((with_reducible show ite _ _ _); walk1; (try dsimp only))))
          rename Fr _ _ _ _ => F9
          rename News _ _ _ (_ :: _ :: _ :: _ :: _ :: _) => N9
          refine ne_intsK (vs := []) (ns := []) (us := []) (ms := []) ⟨_, (N9 (a, W.listOf #[] c5) (by k_memK)).1, rfl, _, rfl⟩ .nil ⟨_, (N9 _ (List.Mem.head _)).1, rfl, _, rfl⟩ .nil (by have := hA.uni; simp only [units_deeper]; omega) ?_
          simp only [decide_true, Bool.not_true]
          (repeat' (first | (k_unfold; (try dsimp only)) | ((with_reducible show wpAny _ _ _ _ _ _); (fail_if_success (with_reducible show wpAny _ _ (exec (Stmt.While _ _ _ _) _) _ _ _)); (fail_if_success (with_reducible show wpAny _ _ (exec (Stmt.For _ _ _ _ _) _) _ _ _)); (fail_if_success (with_reducible show wpAny _ _ (eval (Expr.ListComp _ _ _ _) _) _ _ _)); (fail_if_success (with_reducible show wpAny _ _ (exec (Stmt.Assign [_] (Expr.ListComp _ _ _ _) _) _) _ _ _)); (first | walk1 | (dsimp only; walk1)); (try dsimp only)) | ((with_reducible show (Frag.In _ _ ∧ _)); walk1; (try dsimp only)) | ((with_reducible show ite _ _ _); walk1; (try dsimp only))))
          refine ⟨_, _, _, rfl, (N9 (I, ritObj ra rl rc) (by k_memK)).1, F9, ⟨rfl, rfl, rfl, rfl⟩, S, nb2, D3, T, rs, c, by rw [edec]; exact d3, ?_, by rw [e3]; exact aT, by rw [e2]; exact gd, by rw [e2]; exact ks, fun sl hs => ⟨(o1 sl hs).1, (o1 sl hs).2.1, fun p hp => o5 sl hs p hp⟩, by rw [ebnd]; omega, fun p hp => ⟨(o6 p hp).1, (o6 p hp).2.1⟩, o7⟩
          intro p hp
          refine N9 p ?_
          (revert p; repeat' first | exact List.forall_mem_nil _ | (refine List.forall_mem_cons.mpr ⟨?_, ?_⟩) | (refine List.forall_mem_append.mpr ⟨?_, ?_⟩) | k_memK | (intro p hp; k_memK))
    · rintro m h tk ⟨⟨b1, b2, b3, b4⟩, S, nb2, D, T, rs, c, d, N, aT, gd, ks, o1, l, o2, o3⟩ F
      have F2 : Fr g L' h _ := known4 (a := "bells") (b := "book") (c := "edge") (d := "rung") F b1 b2 b3 b4
      clear F
      have fresh : ∀ a, g.get? a = none → a = x ∨ a = dx ∨ a = 50 ∨ s.heap.get? a = none := fun a q => by
        by_cases hm : a ∈ [x, dx, 50]
        · simp only [List.mem_cons, List.not_mem_nil, or_false] at hm
          rcases hm with h | h | h
          · exact .inl h
          · exact .inr (.inl h)
          · exact .inr (.inr (.inl h))
        · refine .inr (.inr (.inr ?_))
          cases z : s.heap.get? a with
          | none => rfl
          | some o => have := (hg a o).mpr ⟨by simpa using hm, z⟩; rw [q] at this; cases this
      have hsr : s.heap.get? r = none := by
        rcases fresh r hgr with q | q | q | q
        · exact absurd q.symm hrx
        · exact absurd q.symm hrd
        · exact absurd q.symm hr5
        · exact q
      simp only [List.nil_append] at N
      have hxh := (N _ (List.Mem.head _)).1
      have hrh := (N (r, W.listOf rs.toArray c) (by k_memK)).1
      dsimp only at hxh hrh
      have hmx : ∀ p ∈ (D ++ T) ++ tsOf S, p.1 ≠ x ∧ p.1 ≠ r := fun p hp => by
        have hpn := (N p (List.Mem.tail _ (List.Mem.tail _ hp))).1
        rcases List.mem_append.mp hp with hp | hp
        · rcases List.mem_append.mp hp with hp | hp
          · exact o2 p hp
          · obtain ⟨q1, _⟩ := aT.tups p hp
            refine ⟨fun q => ?_, fun q => ?_⟩
            · rw [q, hxh] at hpn
              rw [← Option.some.inj hpn] at q1; cases q1
            · rw [q, hrh] at hpn
              rw [← Option.some.inj hpn] at q1; exact ty_ne (by decide) q1
        · obtain ⟨sl, hs, rfl⟩ := List.mem_map.mp hp
          exact ⟨(o1 sl hs).1, (o1 sl hs).2.1⟩
      (repeat' (first | (k_unfold; (try dsimp only)) | ((with_reducible show wpAny _ _ _ _ _ _); (fail_if_success (with_reducible show wpAny _ _ (exec (Stmt.While _ _ _ _) _) _ _ _)); (fail_if_success (with_reducible show wpAny _ _ (exec (Stmt.For _ _ _ _ _) _) _ _ _)); (fail_if_success (with_reducible show wpAny _ _ (eval (Expr.ListComp _ _ _ _) _) _ _ _)); (fail_if_success (with_reducible show wpAny _ _ (exec (Stmt.Assign [_] (Expr.ListComp _ _ _ _) _) _) _ _ _)); (first | walk1 | (dsimp only; walk1)); (try dsimp only)) | ((with_reducible show (Frag.In _ _ ∧ _)); walk1; (try dsimp only)) | ((with_reducible show ite _ _ _); walk1; (try dsimp only))))
      refine ret h tk r rs c S nb2 D T (fun b o nb e => F2.keep _ _ ((hg _ _).mpr ⟨by simpa using nb, e⟩)) hsr hrh aT hxh (fun p hp => ?_) d gd ks (fun sl hs => (o1 sl hs).2.2) (by omega) hrx
      have n := N p (List.Mem.tail _ (List.Mem.tail _ hp))
      have m := hmx p hp
      refine ⟨n.1, m.1, m.2, ?_⟩
      rcases fresh _ n.2.2 with q | q
      · exact absurd q m.1
      · exact q
end Mine

namespace Mine
open PySem PySem.W PyProof.Rows PySem.Calls
set_option maxRecDepth 100000
set_option linter.unusedVariables false

noncomputable def nx (a b h : Int) : Int := if h ≤ a then a else h + (a - h) % b
def Hr (a b y : Int) : Prop := a ≤ y ∧ (y - a) % b = 0

theorem nx_hr {a b h : Int} (hb : 0 < b) : Hr a b (nx a b h) := by
  unfold Hr nx
  split
  · exact ⟨Int.le_refl _, by simp⟩
  · have h1 := Int.emod_nonneg (a - h) (show b ≠ 0 by (first | lia | omega))
    refine ⟨by (first | lia | omega), ?_⟩
    have e : h + (a - h) % b - a = -(b * ((a - h) / b)) := by
      have := Int.mul_ediv_add_emod (a - h) b; (first | lia | omega)
    rw [e]; simp
theorem nx_ge {a b h : Int} (hb : 0 < b) : h ≤ nx a b h := by
  unfold nx
  have h1 := Int.emod_nonneg (a - h) (show b ≠ 0 by (first | lia | omega))
  split <;> (first | lia | omega)
theorem nx_lt {a b h : Int} (hb : 0 < b) : nx a b h ≤ a ∨ nx a b h < h + b := by
  unfold nx
  have h1 := Int.emod_lt_of_pos (a - h) hb
  split <;> (first | lia | omega)
theorem hr_gap {a b y z : Int} (hb : 0 < b) (hy : Hr a b y) (hz : Hr a b z) (h : y < z) : y + b ≤ z := by
  obtain ⟨_, h1⟩ := hy
  obtain ⟨_, h2⟩ := hz
  have d1 := Int.dvd_of_emod_eq_zero h1
  have d2 := Int.dvd_of_emod_eq_zero h2
  have d3 : b ∣ z - y := by have := Int.dvd_sub d2 d1; rwa [show z - a - (y - a) = z - y by (first | lia | omega)] at this
  have := Int.le_of_dvd (by (first | lia | omega)) d3
  (first | lia | omega)
theorem nx_le {a b h y : Int} (hb : 0 < b) (hy : Hr a b y) (hh : h ≤ y) : nx a b h ≤ y := by
  rcases Int.lt_or_le y (nx a b h) with q | q
  · have := hr_gap hb hy (nx_hr hb) q
    have := hy.1
    rcases nx_lt (a := a) (h := h) hb <;> (first | lia | omega)
  · exact q
theorem nx_uniq {a b h y : Int} (hb : 0 < b) (hy : Hr a b y) (hh : h ≤ y) (hm : ∀ z, Hr a b z → h ≤ z → y ≤ z) : y = nx a b h := by
  have h1 := nx_le hb hy hh
  have h2 := hm _ (nx_hr hb) (nx_ge hb)
  (first | lia | omega)
theorem hr_step {a b y : Int} (hb : 0 < b) (hy : Hr a b y) : Hr a b (y + b) := by
  obtain ⟨h0, h1⟩ := hy
  refine ⟨by (first | lia | omega), ?_⟩
  rw [show y + b - a = (y - a) + b by (first | lia | omega), Int.add_emod_right]; exact h1
theorem nx_self {a b h : Int} (hb : 0 < b) (e : nx a b h = h) : nx a b (h + 1) = h + b := by
  have hh : Hr a b h := e ▸ nx_hr hb
  symm
  refine nx_uniq hb (hr_step hb hh) (by (first | lia | omega)) fun z hz h1 => ?_
  exact hr_gap hb hh hz (by (first | lia | omega))
theorem nx_next {a b h : Int} (hb : 0 < b) (e : nx a b h ≠ h) : nx a b (h + 1) = nx a b h := by
  symm
  have := nx_ge (a := a) (h := h) hb
  exact nx_uniq hb (nx_hr hb) (by (first | lia | omega)) fun z hz h1 => nx_le hb hz (by (first | lia | omega))
theorem nx_zero {a b : Int} (ha : 0 ≤ a) : nx a b 0 = a := by unfold nx; rw [if_pos ha]

theorem head_filter {p : Int → Bool} {e : Int} {n i : Nat} (hi : i < n) (hp : p (e + (i : Int)) = true) (hm : ∀ j : Nat, j < i → p (e + (j : Int)) = false) :
    (((List.range n).map fun i : Nat => e + (i : Int)).filter p).head? = some (e + (i : Int)) := by
  rw [List.head?_filter, List.find?_map]
  have : (List.range n).find? (p ∘ fun i : Nat => e + (i : Int)) = some i := by
    rw [List.find?_range_eq_some]
    refine ⟨hp, by simpa using hi, fun j hj => ?_⟩
    simp [hm j hj]
  rw [this]; rfl

theorem fsts_head {a b e : Int} (ha : a ≤ 9) (hb : 0 < b ∧ b ≤ 6) (he : 0 ≤ e) : (fsts a b e).head? = some (nx a b e) := by
  have h1 := nx_ge (a := a) (h := e) hb.1
  have h2 := nx_lt (a := a) (h := e) hb.1
  have h3 := nx_hr (a := a) (h := e) hb.1
  obtain ⟨i, hi⟩ := Int.eq_ofNat_of_zero_le (show 0 ≤ nx a b e - e by (first | lia | omega))
  have ei : nx a b e = e + (i : Int) := by (first | lia | omega)
  have key : ∀ y, (decide (a ≤ y) && decide ((y - a).fmod b = 0)) = true ↔ Hr a b y := fun y => by
    unfold Hr
    rw [Bool.and_eq_true, decide_eq_true_iff, decide_eq_true_iff, Int.fmod_eq_emod_of_nonneg _ (by (first | lia | omega))]
  rw [ei]
  unfold fsts
  refine head_filter (by (first | lia | omega)) ?_ fun j hj => ?_
  · rw [key, ← ei]; exact h3
  · rw [Bool.eq_false_iff]
    intro q
    have := nx_le hb.1 ((key _).mp q) (show e ≤ e + (j : Int) by (first | lia | omega))
    (first | lia | omega)
theorem fsts_ne {a b e : Int} (ha : a ≤ 9) (hb : 0 < b ∧ b ≤ 6) (he : 0 ≤ e) : fsts a b e ≠ [] := fun q => by
  have := fsts_head ha hb he; rw [q] at this; cases this
theorem fsts_headD {a b e : Int} (ha : a ≤ 9) (hb : 0 < b ∧ b ≤ 6) (he : 0 ≤ e) : (fsts a b e).headD 0 = nx a b e := by
  have := fsts_head ha hb he
  cases hq : fsts a b e with
  | nil => rw [hq] at this; cases this
  | cons x l => rw [hq] at this; exact Option.some.inj this

theorem mem_cand {a b y : Int} (hb : 0 < b) : y ∈ cand a b ↔ Hr a b y ∧ y < 22 := by
  unfold cand Hr Builtin.Range.rangeSize
  rw [if_pos (by (first | lia | omega))]
  simp only [List.mem_map, List.mem_range]
  constructor
  · rintro ⟨i, hi, rfl⟩
    split at hi
    · have h1 : (i : Int) ≤ (22 - a - 1) / b := by (first | lia | omega)
      have h2 := Int.mul_le_of_le_ediv hb h1
      have h3 : 0 ≤ (i : Int) * b := Int.mul_nonneg (by (first | lia | omega)) (by (first | lia | omega))
      refine ⟨⟨by (first | lia | omega), ?_⟩, by (first | lia | omega)⟩
      rw [show a + (i : Int) * b - a = (i : Int) * b by (first | lia | omega)]; simp
    · simp at hi
  · rintro ⟨⟨h1, h2⟩, h3⟩
    obtain ⟨i, hi⟩ := Int.eq_ofNat_of_zero_le (Int.ediv_nonneg (show 0 ≤ y - a by (first | lia | omega)) (show 0 ≤ b by (first | lia | omega)))
    have h4 := Int.mul_ediv_add_emod (y - a) b
    rw [h2, hi, Int.mul_comm] at h4
    refine ⟨i, ?_, by show a + (i : Int) * b = y; (first | lia | omega)⟩
    rw [if_pos (by (first | lia | omega))]
    have : (i : Int) ≤ (22 - a - 1) / b := by
      rw [Int.le_ediv_iff_mul_le hb]; (first | lia | omega)
    (first | lia | omega)
theorem cand_sorted {a b : Int} (hb : 0 < b) : (cand a b).Pairwise (· < ·) := by
  unfold cand
  refine List.pairwise_map.mpr (List.pairwise_lt_range.imp fun {i j} h => ?_)
  have : (i : Int) * b < (j : Int) * b := Int.mul_lt_mul_of_pos_right (by (first | lia | omega)) hb
  (first | lia | omega)
theorem mem_takeWhile {p : Int → Bool} : ∀ {l : List Int}, l.Pairwise (· < ·) → ∀ {y : Int}, y ∈ l.takeWhile p ↔ y ∈ l ∧ ∀ z ∈ l, z ≤ y → p z = true
  | [], _, y => by simp
  | x :: l, h, y => by
    have hx := List.pairwise_cons.mp h
    rw [List.takeWhile_cons]
    cases hp : p x with
    | false =>
      simp only [Bool.false_eq_true, if_false]
      constructor
      · intro q; cases q
      · rintro ⟨h1, h2⟩
        rcases List.mem_cons.mp h1 with rfl | h1
        · have := h2 _ (List.Mem.head _) (Int.le_refl _); rw [hp] at this; cases this
        · have := h2 _ (List.Mem.head _) (Int.le_of_lt (hx.1 _ h1)); rw [hp] at this; cases this
    | true =>
      simp only [if_true]
      rw [List.mem_cons, List.mem_cons, mem_takeWhile hx.2]
      constructor
      · rintro (rfl | ⟨h1, h2⟩)
        · refine ⟨.inl rfl, fun z hz hzy => ?_⟩
          rcases List.mem_cons.mp hz with rfl | hz
          · exact hp
          · have := hx.1 z hz; (first | lia | omega)
        · refine ⟨.inr h1, fun z hz hzy => ?_⟩
          rcases List.mem_cons.mp hz with rfl | hz
          · exact hp
          · exact h2 z hz hzy
      · rintro ⟨rfl | h1, h2⟩
        · exact .inl rfl
        · exact .inr ⟨h1, fun z hz hzy => h2 z (List.Mem.tail _ hz) hzy⟩

def Live (a b e : Int) (ks : List Int) (y : Int) : Prop := ∀ z, Hr a b z → z ≤ y → z < e ∨ z ∈ ks
theorem okH_iff {e : Int} {ks : List Int} {h : Int} : okH e ks h = true ↔ h < e ∨ h ∈ ks := by
  unfold okH
  rw [Bool.not_eq_true', Bool.and_eq_false_iff]
  simp only [decide_eq_false_iff_not, Bool.not_eq_false', List.any_eq_true, beq_iff_eq]
  constructor
  · rintro (q | ⟨x, q, rfl⟩)
    · left; (first | lia | omega)
    · exact .inr q
  · rintro (q | q)
    · left; (first | lia | omega)
    · exact .inr ⟨h, q, rfl⟩
theorem mem_hours {a b e : Int} {ks : List Int} {y : Int} (hb : 0 < b) : y ∈ hoursL a b e ks ↔ Hr a b y ∧ y < 22 ∧ Live a b e ks y := by
  unfold hoursL Live
  rw [mem_takeWhile (cand_sorted hb), mem_cand hb]
  constructor
  · rintro ⟨⟨h1, h2⟩, h3⟩
    exact ⟨h1, h2, fun z hz hzy => okH_iff.mp (h3 z ((mem_cand hb).mpr ⟨hz, by (first | lia | omega)⟩) hzy)⟩
  · rintro ⟨h1, h2, h3⟩
    exact ⟨⟨h1, h2⟩, fun z hz hzy => okH_iff.mpr (h3 z ((mem_cand hb).mp hz).1 hzy)⟩
theorem hours_sorted {a b e : Int} {ks : List Int} (hb : 0 < b) : (hoursL a b e ks).Pairwise (· < ·) :=
  (cand_sorted hb).sublist (List.takeWhile_sublist _)

theorem take1_iff {l : List Int} (hl : l.Pairwise (· < ·)) {k : Int} : ((l.filter fun o => decide (12 ≤ o)).take 1 == [k]) = true ↔ k ∈ l ∧ 12 ≤ k ∧ ∀ z ∈ l, 12 ≤ z → k ≤ z := by
  rw [beq_iff_eq]
  have hs : (l.filter fun o => decide (12 ≤ o)).Pairwise (· < ·) := hl.filter _
  have hm : ∀ z, z ∈ (l.filter fun o => decide (12 ≤ o)) ↔ z ∈ l ∧ 12 ≤ z := fun z => by rw [List.mem_filter, decide_eq_true_iff]
  revert hs hm
  generalize (l.filter fun o => decide (12 ≤ o)) = m
  intro hs hm
  cases m with
  | nil =>
    simp only [List.take_nil]
    constructor
    · intro q; cases q
    · rintro ⟨h1, h2, _⟩
      have := (hm k).mpr ⟨h1, h2⟩; cases this
  | cons x m =>
    rw [List.take_succ_cons, List.take_zero]
    have hx := List.pairwise_cons.mp hs
    constructor
    · intro q
      have q : x = k := by injection q
      subst q
      have h1 := (hm x).mp (List.Mem.head _)
      refine ⟨h1.1, h1.2, fun z hz hz2 => ?_⟩
      rcases List.mem_cons.mp ((hm z).mpr ⟨hz, hz2⟩) with rfl | q
      · exact Int.le_refl _
      · exact Int.le_of_lt (hx.1 z q)
    · rintro ⟨h1, h2, h3⟩
      have h4 := (hm x).mp (List.Mem.head _)
      have h5 := h3 x h4.1 h4.2
      rcases List.mem_cons.mp ((hm k).mpr ⟨h1, h2⟩) with rfl | q
      · rfl
      · have := hx.1 k q; (first | lia | omega)
end Mine

namespace Mine
open PySem PySem.W PyProof.Rows PySem.Calls
set_option maxRecDepth 100000
set_option linter.unusedVariables false

theorem simPush_off {fz : Bool} {st : St} {n i : Nat} {k : Int} (h : i ≠ n) : (simPush fz st n k).1 i = st.1 i := by
  unfold simPush upd
  split
  · simp [h]
  · split <;> simp [h]

theorem simRing_facts (fz : Bool) (bs : List (Int × Int)) (h : Int) : ∀ (l : List Int) (st : St), l.Nodup → (∀ i ∈ l, 0 ≤ i) →
    (fz = true → (simRing fz bs h st l).2 = st.2 ∧ ∀ n : Nat, (simRing fz bs h st l).1 n = if (n : Int) ∈ l then (if h + bellB bs n ∈ st.2 then some (h + bellB bs n) else none) else st.1 n) ∧
    (fz = false → (st.2.Nodup → (simRing fz bs h st l).2.Nodup) ∧ (∀ k, k ∈ (simRing fz bs h st l).2 ↔ k ∈ st.2 ∨ ∃ n : Nat, (n : Int) ∈ l ∧ k = h + bellB bs n) ∧ ∀ n : Nat, (simRing fz bs h st l).1 n = if (n : Int) ∈ l then some (h + bellB bs n) else st.1 n)
  | [], st, _, _ => by
    refine ⟨fun _ => ⟨rfl, fun n => by simp [simRing]⟩, fun _ => ⟨fun x => x, fun k => by simp [simRing], fun n => by simp [simRing]⟩⟩
  | i :: l, st, hn, h0 => by
    have hi := List.nodup_cons.mp hn
    obtain ⟨m, rfl⟩ := Int.eq_ofNat_of_zero_le (h0 i (List.Mem.head _))
    have ih := simRing_facts fz bs h l (simPush fz st m (h + bellB bs m)) hi.2 fun j hj => h0 j (List.Mem.tail _ hj)
    have e : simRing fz bs h st ((m : Int) :: l) = simRing fz bs h (simPush fz st m (h + bellB bs m)) l := rfl
    rw [e]
    constructor
    · intro hf
      obtain ⟨i1, i2⟩ := ih.1 hf
      subst hf
      have e2 : (simPush true st m (h + bellB bs m)).2 = st.2 := by unfold simPush; split <;> rfl
      refine ⟨i1.trans e2, fun n => ?_⟩
      rw [i2, e2]
      by_cases hnm : n = m
      · subst hnm
        rw [if_neg hi.1, if_pos List.mem_cons_self]
        unfold simPush upd
        split <;> simp
      · by_cases hl : (n : Int) ∈ l
        · rw [if_pos hl, if_pos (List.mem_cons_of_mem _ hl)]
        · rw [if_neg hl, if_neg (by simp only [List.mem_cons, not_or]; exact ⟨by (first | lia | omega), hl⟩)]
          exact simPush_off hnm
    · intro hf
      obtain ⟨i1, i2, i3⟩ := ih.2 hf
      subst hf
      have e2 : ∀ k, k ∈ (simPush false st m (h + bellB bs m)).2 ↔ k ∈ st.2 ∨ k = h + bellB bs m := fun k => by
        unfold simPush
        split
        · rename_i q
          constructor
          · exact .inl
          · rintro (q2 | rfl)
            · exact q2
            · exact q
        · simp
      refine ⟨fun hd => i1 ?_, fun k => ?_, fun n => ?_⟩
      · unfold simPush
        split
        · exact hd
        · rename_i q
          simp only [Bool.false_eq_true, if_false]
          rw [List.nodup_append]
          refine ⟨hd, by simp, fun a ha b hb => ?_⟩
          rw [List.mem_singleton.mp hb]
          intro z; rw [z] at ha; exact q ha
      · rw [i2, e2]
        constructor
        · rintro ((q | q) | ⟨n, q, r⟩)
          · exact .inl q
          · exact .inr ⟨m, List.Mem.head _, q⟩
          · exact .inr ⟨n, List.Mem.tail _ q, r⟩
        · rintro (q | ⟨n, q, r⟩)
          · exact .inl (.inl q)
          · rcases List.mem_cons.mp q with q | q
            · left; right; rw [r, show n = m by (first | lia | omega)]
            · exact .inr ⟨n, q, r⟩
      · rw [i3]
        by_cases hnm : n = m
        · subst hnm
          rw [if_neg hi.1, if_pos List.mem_cons_self]
          unfold simPush upd
          split <;> simp
        · by_cases hl : (n : Int) ∈ l
          · rw [if_pos hl, if_pos (List.mem_cons_of_mem _ hl)]
          · rw [if_neg hl, if_neg (by simp only [List.mem_cons, not_or]; exact ⟨by (first | lia | omega), hl⟩)]
            exact simPush_off hnm

theorem simInit_facts (bs : List (Int × Int)) : ∀ i : Nat, (simInit bs i).2.Nodup ∧ (∀ k, k ∈ (simInit bs i).2 ↔ ∃ n : Nat, n < i ∧ k = bellA bs n) ∧ ∀ n : Nat, n < i → (simInit bs i).1 n = some (bellA bs n)
  | 0 => ⟨by simp [simInit], fun k => by simp [simInit], fun n hn => by (first | lia | omega)⟩
  | i + 1 => by
    obtain ⟨h1, h2, h3⟩ := simInit_facts bs i
    rw [simInit_succ]
    refine ⟨?_, fun k => ?_, fun n hn => ?_⟩
    · unfold simPush
      split
      · exact h1
      · rename_i q
        simp only [Bool.false_eq_true, if_false]
        rw [List.nodup_append]
        refine ⟨h1, by simp, fun a ha b hb => ?_⟩
        rw [List.mem_singleton.mp hb]
        intro z; rw [z] at ha; exact q ha
    · have e2 : k ∈ (simPush false (simInit bs i) i (bellA bs i)).2 ↔ k ∈ (simInit bs i).2 ∨ k = bellA bs i := by
        unfold simPush
        split
        · rename_i q
          constructor
          · exact .inl
          · rintro (q2 | rfl)
            · exact q2
            · exact q
        · simp
      rw [e2, h2]
      constructor
      · rintro (⟨n, q, r⟩ | q)
        · exact ⟨n, by (first | lia | omega), r⟩
        · exact ⟨i, by (first | lia | omega), q⟩
      · rintro ⟨n, q, r⟩
        by_cases hni : n = i
        · subst hni; exact .inr r
        · exact .inl ⟨n, by (first | lia | omega), r⟩
    · by_cases hni : n = i
      · subst hni
        unfold simPush upd
        split <;> simp
      · rw [simPush_off hni]; exact h3 n (by (first | lia | omega))

def BellsOk (bs : List (Int × Int)) : Prop := ∀ n : Nat, n < bs.length → 0 ≤ bellA bs n ∧ bellA bs n ≤ 9 ∧ 0 < bellB bs n ∧ bellB bs n ≤ 6
noncomputable def keptL (bs : List (Int × Int)) (e : Int) : List Int := bs.map fun p => (fsts p.1 p.2 e).headD 0
theorem mem_kept {bs : List (Int × Int)} {e : Int} (ok : BellsOk bs) (he : 0 ≤ e) {k : Int} : k ∈ keptL bs e ↔ ∃ n : Nat, n < bs.length ∧ k = nx (bellA bs n) (bellB bs n) e := by
  unfold keptL
  rw [List.mem_map]
  have get : ∀ (n : Nat) (hn : n < bs.length), (fsts bs[n].1 bs[n].2 e).headD 0 = nx (bellA bs n) (bellB bs n) e := fun n hn => by
    have ep : bs.getD n (0, 1) = bs[n] := by simp [hn]
    have ea : bellA bs n = bs[n].1 := by unfold bellA; rw [ep]
    have eb : bellB bs n = bs[n].2 := by unfold bellB; rw [ep]
    have := ok n hn
    rw [ea, eb] at this ⊢
    exact fsts_headD this.2.1 ⟨this.2.2.1, this.2.2.2⟩ he
  constructor
  · rintro ⟨p, hp, rfl⟩
    obtain ⟨n, hn, rfl⟩ := List.getElem_of_mem hp
    exact ⟨n, hn, get n hn⟩
  · rintro ⟨n, hn, rfl⟩
    exact ⟨bs[n], List.getElem_mem hn, get n hn⟩

structure SimOk (bs : List (Int × Int)) (e : Int) (i : Int) (st : St) : Prop where
  at_ : ∀ n : Nat, n < bs.length → ∀ k, st.1 n = some k ↔ k = nx (bellA bs n) (bellB bs n) i ∧ Live (bellA bs n) (bellB bs n) e (keptL bs e) k
  nd : st.2.Nodup
  keys : ∀ k, k ∈ st.2 ↔ if i ≤ e then (0 ≤ k ∧ k < i) ∨ ∃ n : Nat, n < bs.length ∧ k = nx (bellA bs n) (bellB bs n) i else (0 ≤ k ∧ k < e) ∨ k ∈ keptL bs e

theorem live_early {bs : List (Int × Int)} {e i : Int} (ok : BellsOk bs) (he : 0 ≤ e) (hi : i ≤ e) {n : Nat} (hn : n < bs.length) :
    Live (bellA bs n) (bellB bs n) e (keptL bs e) (nx (bellA bs n) (bellB bs n) i) := fun z hz hzy => by
  have hb := (ok n hn).2.2.1
  by_cases q : z < e
  · exact .inl q
  · right
    rw [mem_kept ok he]
    refine ⟨n, hn, nx_uniq hb hz (by (first | lia | omega)) fun y hy h1 => ?_⟩
    have := nx_le hb hy (show i ≤ y by (first | lia | omega))
    (first | lia | omega)

theorem simOk_zero {bs : List (Int × Int)} {e : Int} (ok : BellsOk bs) (he : 0 ≤ e) : SimOk bs e 0 (simTo e bs 0) := by
  obtain ⟨h1, h2, h3⟩ := simInit_facts bs bs.length
  refine ⟨fun n hn k => ?_, h1, fun k => ?_⟩
  · show (simInit bs bs.length).1 n = some k ↔ _
    rw [h3 n hn, Option.some.injEq]
    have q := live_early (i := 0) ok he he hn
    rw [nx_zero (ok n hn).1] at q ⊢
    constructor
    · rintro rfl; exact ⟨rfl, q⟩
    · rintro ⟨rfl, _⟩; rfl
  · rw [if_pos he]
    show k ∈ (simInit bs bs.length).2 ↔ _
    rw [h2]
    constructor
    · rintro ⟨n, hn, rfl⟩; exact .inr ⟨n, hn, (nx_zero (ok n hn).1).symm⟩
    · rintro (q | ⟨n, hn, rfl⟩)
      · (first | lia | omega)
      · exact ⟨n, hn, nx_zero (ok n hn).1⟩

theorem simOk_step {bs : List (Int × Int)} {e : Int} {i : Int} {st : St} (ok : BellsOk bs) (he : 0 ≤ e) (h0 : 0 ≤ i) (S : SimOk bs e i st) : SimOk bs e (i + 1) (simHour e bs st i) := by
  have hl : ∀ n : Nat, (n : Int) ∈ mem bs.length st.1 i ↔ n < bs.length ∧ nx (bellA bs n) (bellB bs n) i = i ∧ Live (bellA bs n) (bellB bs n) e (keptL bs e) i := fun n => by
    rw [mem_mem]
    constructor
    · rintro ⟨m, h1, h2, h3⟩
      obtain rfl : m = n := by (first | lia | omega)
      have := (S.at_ m h1 i).mp h2
      exact ⟨h1, this.1.symm, this.2⟩
    · rintro ⟨h1, h2, h3⟩
      exact ⟨n, h1, (S.at_ n h1 i).mpr ⟨h2.symm, h3⟩, rfl⟩
  have h1 := simRing_facts (decide (e ≤ i)) bs i (mem bs.length st.1 i) (simLook (decide (e ≤ i)) st i) (mem_nodup _ _ _) fun j hj => by
    obtain ⟨n, _, _, rfl⟩ := mem_mem.mp hj; (first | lia | omega)
  have elook : (simLook (decide (e ≤ i)) st i).1 = st.1 := by
    unfold simLook
    split
    · rfl
    · split <;> rfl
  unfold simHour
  by_cases hf : e ≤ i
  · -- frozen
    have ef : decide (e ≤ i) = true := by simpa using hf
    obtain ⟨k1, k2⟩ := h1.1 ef
    rw [ef] at k1 k2 elook ⊢
    have elk : simLook true st i = st := by unfold simLook; split <;> rfl
    rw [elk] at k1 k2 ⊢
    have keys : ∀ k, k ∈ st.2 ↔ (0 ≤ k ∧ k < e) ∨ k ∈ keptL bs e := fun k => by
      rw [S.keys]
      by_cases q : i ≤ e
      · obtain rfl : i = e := by (first | lia | omega)
        rw [if_pos (Int.le_refl _), mem_kept ok he]
      · rw [if_neg q]
    refine ⟨fun n hn k => ?_, by rw [k1]; exact S.nd, fun k => by rw [k1, if_neg (by (first | lia | omega)), keys]⟩
    have hb := (ok n hn).2.2.1
    rw [k2]
    by_cases hin : (n : Int) ∈ mem bs.length st.1 i
    · rw [if_pos hin]
      obtain ⟨_, g1, g2⟩ := (hl n).mp hin
      have hri : Hr (bellA bs n) (bellB bs n) i := by have := nx_hr (a := bellA bs n) (h := i) hb; rwa [g1] at this
      rw [nx_self hb g1]
      by_cases hk : i + bellB bs n ∈ st.2
      · rw [if_pos hk, Option.some.injEq]
        constructor
        · rintro rfl
          refine ⟨rfl, fun z hz hzy => ?_⟩
          by_cases q : z ≤ i
          · exact g2 z hz q
          · have := hr_gap hb hri hz (by (first | lia | omega))
            obtain rfl : z = i + bellB bs n := by (first | lia | omega)
            rcases (keys _).mp hk with q2 | q2
            · (first | lia | omega)
            · exact .inr q2
        · rintro ⟨rfl, _⟩; rfl
      · rw [if_neg hk]
        constructor
        · intro q; cases q
        · rintro ⟨rfl, q⟩
          rcases q _ (hr_step hb hri) (Int.le_refl _) with q | q
          · (first | lia | omega)
          · exact absurd ((keys _).mpr (.inr q)) hk
    · rw [if_neg hin, S.at_ n hn]
      by_cases g1 : nx (bellA bs n) (bellB bs n) i = i
      · have g2 : ¬ Live (bellA bs n) (bellB bs n) e (keptL bs e) i := fun q => hin ((hl n).mpr ⟨hn, g1, q⟩)
        constructor
        · rintro ⟨rfl, q⟩
          rw [g1] at q; exact absurd q g2
        · rintro ⟨rfl, q⟩
          refine absurd (fun z hz hzy => q z hz ?_) g2
          have := nx_ge (a := bellA bs n) (h := i + 1) hb
          (first | lia | omega)
      · rw [nx_next hb g1]
  · -- not frozen
    have ef : decide (e ≤ i) = false := by simpa using hf
    obtain ⟨k0, k1, k2⟩ := h1.2 ef
    rw [ef] at k0 k1 k2 elook ⊢
    have klook : ∀ k, k ∈ (simLook false st i).2 ↔ k ∈ st.2 ∨ k = i := fun k => by
      unfold simLook
      split
      · rename_i q
        constructor
        · exact .inl
        · rintro (q2 | rfl)
          · exact q2
          · exact q
      · simp
    have ndl : (simLook false st i).2.Nodup := by
      unfold simLook
      split
      · exact S.nd
      · rename_i q
        simp only [Bool.false_eq_true, if_false]
        rw [List.nodup_append]
        refine ⟨S.nd, by simp, fun a ha b hb => ?_⟩
        rw [List.mem_singleton.mp hb]
        intro z; rw [z] at ha; exact q ha
    refine ⟨fun n hn k => ?_, k0 ndl, fun k => ?_⟩
    · have hb := (ok n hn).2.2.1
      rw [k2, elook]
      by_cases hin : (n : Int) ∈ mem bs.length st.1 i
      · rw [if_pos hin]
        obtain ⟨_, g1, g2⟩ := (hl n).mp hin
        have g3 := live_early (i := i + 1) ok he (by (first | lia | omega)) hn
        rw [nx_self hb g1] at g3 ⊢
        rw [Option.some.injEq]
        constructor
        · rintro rfl; exact ⟨rfl, g3⟩
        · rintro ⟨rfl, _⟩; rfl
      · rw [if_neg hin, S.at_ n hn]
        have g3 := live_early (i := i) ok he (by (first | lia | omega)) hn
        have g1 : nx (bellA bs n) (bellB bs n) i ≠ i := fun q => hin ((hl n).mpr ⟨hn, q, by rw [q] at g3; exact g3⟩)
        rw [nx_next hb g1]
    · rw [k1, klook, S.keys, if_pos (by (first | lia | omega)), if_pos (by (first | lia | omega))]
      constructor
      · rintro (((q | ⟨n, hn, rfl⟩) | rfl) | ⟨n, hn, rfl⟩)
        · left; (first | lia | omega)
        · have hb := (ok n hn).2.2.1
          by_cases g1 : nx (bellA bs n) (bellB bs n) i = i
          · left; (first | lia | omega)
          · exact .inr ⟨n, hn, (nx_next hb g1).symm⟩
        · left; (first | lia | omega)
        · obtain ⟨g0, g1, _⟩ := (hl n).mp hn
          exact .inr ⟨n, g0, (nx_self (ok n g0).2.2.1 g1).symm⟩
      · rintro (q | ⟨n, hn, rfl⟩)
        · by_cases q2 : k = i
          · exact .inl (.inr q2)
          · left; left; left; (first | lia | omega)
        · have hb := (ok n hn).2.2.1
          by_cases g1 : nx (bellA bs n) (bellB bs n) i = i
          · right
            refine ⟨n, (hl n).mpr ⟨hn, g1, ?_⟩, nx_self hb g1⟩
            have g3 := live_early (i := i) ok he (by (first | lia | omega)) hn
            rwa [g1] at g3
          · left; left; right
            exact ⟨n, hn, nx_next hb g1⟩

theorem simOk {bs : List (Int × Int)} {e : Int} (ok : BellsOk bs) (he : 0 ≤ e) : ∀ i : Nat, SimOk bs e (i : Int) (simTo e bs i)
  | 0 => simOk_zero ok he
  | i + 1 => by
    rw [simTo_succ]
    have := simOk_step ok he (by (first | lia | omega)) (simOk ok he i)
    simpa using this

noncomputable def chainsL (bs : List (Int × Int)) (e : Int) : List (List Int) := bs.map fun p => hoursL p.1 p.2 e (keptL bs e)
theorem chains_get {bs : List (Int × Int)} {e : Int} {n : Nat} (hn : n < bs.length) : (chainsL bs e).getD n [] = hoursL (bellA bs n) (bellB bs n) e (keptL bs e) := by
  unfold chainsL bellA bellB
  simp [hn]

theorem rings_law {bs : List (Int × Int)} {e : Int} (ok : BellsOk bs) (he : 0 ≤ e) : simRings e bs 12 = ringsP (chainsL bs e) 12 0 := by
  have h0 : rowL (chainsL bs e) 12 0 = [] := by simp [rowL]
  unfold simRings ringsP
  rw [h0, List.append_nil]
  have hlen : (chainsL bs e).length = bs.length := by simp [chainsL]
  rw [List.flatMap_def, List.flatMap_def]
  congr 1
  apply List.map_congr_left
  intro i hi
  have hi := List.mem_range.mp hi
  unfold mem rowL
  rw [hlen, List.map_map]
  have : (List.range bs.length).filter (fun n => (simTo e bs i).1 n == some (i : Int)) = (List.range bs.length).filter fun n => ((chainsL bs e).getD n []).any (· == (i : Int)) := by
    apply List.filter_congr
    intro n hn
    have hn := List.mem_range.mp hn
    have hb := (ok n hn).2.2.1
    rw [Bool.eq_iff_iff, beq_iff_eq, (simOk ok he i).at_ n hn, chains_get hn]
    simp only [List.any_eq_true, beq_iff_eq, exists_eq_right]
    rw [mem_hours hb]
    constructor
    · rintro ⟨h1, h2⟩
      refine ⟨by rw [h1]; exact nx_hr hb, by (first | lia | omega), h2⟩
    · rintro ⟨h1, _, h2⟩
      exact ⟨nx_uniq hb h1 (Int.le_refl _) fun z _ q => q, h2⟩
  rw [this]
  rfl

noncomputable def keysL (bs : List (Int × Int)) (e : Int) : List Int := ((List.range 22).map fun i : Nat => (i : Int)).filter fun h => decide (h < e) || (keptL bs e).any (· == h)
theorem kept_lt {bs : List (Int × Int)} {e : Int} (ok : BellsOk bs) (he : 0 ≤ e ∧ e ≤ 12) {k : Int} (h : k ∈ keptL bs e) : 0 ≤ k ∧ k < 22 := by
  obtain ⟨n, hn, rfl⟩ := (mem_kept ok he.1).mp h
  have := ok n hn
  have h1 := nx_ge (a := bellA bs n) (h := e) this.2.2.1
  have h2 := nx_lt (a := bellA bs n) (h := e) this.2.2.1
  (first | lia | omega)
theorem sim_keys {bs : List (Int × Int)} {e : Int} (ok : BellsOk bs) (he : 0 ≤ e ∧ e ≤ 12) : (simTo e bs 12).2.Nodup ∧ ∀ k, k ∈ (simTo e bs 12).2 ↔ (0 ≤ k ∧ k < e) ∨ k ∈ keptL bs e := by
  have S := simOk ok he.1 12
  refine ⟨S.nd, fun k => ?_⟩
  rw [S.keys]
  by_cases q : ((12 : Nat) : Int) ≤ e
  · have q2 : e = ((12 : Nat) : Int) := by (first | lia | omega)
    rw [if_pos q, q2, mem_kept ok (by (first | lia | omega))]
  · rw [if_neg q]
theorem keys_law {bs : List (Int × Int)} {e : Int} (ok : BellsOk bs) (he : 0 ≤ e ∧ e ≤ 12) : (simTo e bs 12).2.Perm (keysL bs e) := by
  obtain ⟨h1, h2⟩ := sim_keys ok he
  refine perm_of_mem h1 ?_ fun k => ?_
  · unfold keysL
    refine List.Pairwise.filter _ (List.pairwise_map.mpr ((show List.Pairwise (· ≠ ·) (List.range 22) from List.nodup_range).imp fun {a b} h e => h (Int.ofNat_inj.mp e)))
  · rw [h2]
    unfold keysL
    simp only [List.mem_filter, List.mem_map, List.mem_range, Bool.or_eq_true, decide_eq_true_iff, List.any_eq_true, beq_iff_eq, exists_eq_right]
    constructor
    · rintro (q | q)
      · exact ⟨⟨k.toNat, by (first | lia | omega), by (first | lia | omega)⟩, .inl q.2⟩
      · have := kept_lt ok he q
        exact ⟨⟨k.toNat, by (first | lia | omega), by (first | lia | omega)⟩, .inr q⟩
    · rintro ⟨⟨i, hi, rfl⟩, q | q⟩
      · left; (first | lia | omega)
      · exact .inr q
theorem keysL_sorted (bs : List (Int × Int)) (e : Int) : (keysL bs e).Pairwise (· < ·) := by
  unfold keysL
  exact List.Pairwise.filter _ (List.pairwise_map.mpr (List.pairwise_lt_range.imp fun {a b} h => Int.ofNat_lt.mpr h))

theorem stands_law {bs : List (Int × Int)} {e : Int} (ok : BellsOk bs) (he : 0 ≤ e) (k : Int) : mem bs.length (simTo e bs 12).1 k = standsL (chainsL bs e) k := by
  have S := simOk ok he 12
  have hlen : (chainsL bs e).length = bs.length := by simp [chainsL]
  unfold standsL
  by_cases hk : k < 12
  · rw [if_pos hk, List.eq_nil_iff_forall_not_mem]
    intro i hi
    obtain ⟨n, hn, h2, _⟩ := mem_mem.mp hi
    have h3 := ((S.at_ n hn k).mp h2).1
    have := nx_ge (a := bellA bs n) (h := ((12 : Nat) : Int)) (ok n hn).2.2.1
    (first | lia | omega)
  · rw [if_neg hk, hlen]
    unfold mem
    rw [show (fun i : Nat => (0 : Int) + (i : Int)) = fun i : Nat => (i : Int) by funext i; (first | lia | omega), List.filter_map]
    congr 1
    apply List.filter_congr
    intro n hn
    have hn := List.mem_range.mp hn
    have hB := ok n hn
    have hb := hB.2.2.1
    rw [Bool.eq_iff_iff, beq_iff_eq, S.at_ n hn]
    simp only [Function.comp]
    unfold standP
    rw [Int.toNat_natCast, chains_get hn, take1_iff (hours_sorted hb)]
    have h1 := nx_ge (a := bellA bs n) (h := ((12 : Nat) : Int)) hb
    have h2 := nx_lt (a := bellA bs n) (h := ((12 : Nat) : Int)) hb
    constructor
    · rintro ⟨rfl, q⟩
      refine ⟨(mem_hours hb).mpr ⟨nx_hr hb, by (first | lia | omega), q⟩, by (first | lia | omega), fun z hz h3 => nx_le hb ((mem_hours hb).mp hz).1 (by (first | lia | omega))⟩
    · rintro ⟨q1, q2, q3⟩
      obtain ⟨r1, r2, r3⟩ := (mem_hours hb).mp q1
      refine ⟨nx_uniq hb r1 (by (first | lia | omega)) fun z hz h3 => ?_, r3⟩
      by_cases q : z < k
      · have := q3 z ((mem_hours hb).mpr ⟨hz, by (first | lia | omega), fun y hy h4 => r3 y hy (by (first | lia | omega))⟩) (by (first | lia | omega))
        exact this
      · (first | lia | omega)
end Mine

namespace Mine
open PySem PySem.W PyProof.Rows PySem.Calls
set_option maxRecDepth 100000
set_option linter.unusedVariables false

theorem klt_iff {a b : Key} : klt a b = true ↔ (a.1 < b.1 ∨ (a.1 = b.1 ∧ a.2 < b.2)) := by
  unfold klt
  simp [Bool.or_eq_true, Bool.and_eq_true]
theorem klt_no {a b : Key} : klt a b = false ↔ (b.1 < a.1 ∨ (b.1 = a.1 ∧ b.2 ≤ a.2)) := by
  rw [← Bool.not_eq_true, klt_iff]; (first | lia | omega)
def KSt (l : List Key) : Prop := l.Pairwise fun a b => klt a b = true
def KLe (l : List Key) : Prop := l.Pairwise fun a b => klt b a = false
theorem KSt.le {l : List Key} (h : KSt l) : KLe l := List.Pairwise.imp (fun {a b} q => by rw [klt_no]; rw [klt_iff] at q; (first | lia | omega)) h
theorem kle_eq : ∀ {l m : List Key}, KLe l → KLe m → l.Perm m → l = m
  | [], m, _, _, p => by rw [List.nil_perm.mp p]
  | x :: l, [], _, _, p => by have := List.perm_nil.mp p; cases this
  | x :: l, y :: m, h1, h2, p => by
    have hx := List.pairwise_cons.mp h1
    have hy := List.pairwise_cons.mp h2
    have e : x = y := by
      have a : x ∈ y :: m := p.mem_iff.mp (List.Mem.head _)
      have b : y ∈ x :: l := p.mem_iff.mpr (List.Mem.head _)
      rcases List.mem_cons.mp a with q | q
      · exact q
      · rcases List.mem_cons.mp b with r | r
        · exact r.symm
        · have h1 := klt_no.mp (hy.1 x q)
          have h2 := klt_no.mp (hx.1 y r)
          exact Prod.ext (by (first | lia | omega)) (by (first | lia | omega))
    subst e
    rw [kle_eq hx.2 hy.2 ((List.perm_cons _).mp p)]
theorem kst_nodup {l : List Key} (h : KSt l) : l.Nodup := List.Pairwise.imp (fun {a b} q e => by
  rw [klt_iff] at q; subst e; (first | lia | omega)) h
theorem kst_eq {l m : List Key} (h1 : KSt l) (h2 : KSt m) (h : ∀ x, x ∈ l ↔ x ∈ m) : l = m :=
  kle_eq h1.le h2.le ((List.perm_ext_iff_of_nodup (kst_nodup h1) (kst_nodup h2)).mpr h)

noncomputable def keysOf (N : Nat) (τ : Nat → Int) : List Key := (List.range N).map fun n => (τ n, (n : Int))
noncomputable def tauUp (τ : Nat → Int) (n : Nat) (v : Int) : Nat → Int := fun i => if i = n then v else τ i
noncomputable def msum (N : Nat) (τ : Nat → Int) : Nat := ((List.range N).map fun n => (18 - τ n).toNat).sum

theorem msum_succ (N : Nat) (τ : Nat → Int) : msum (N + 1) τ = msum N τ + (18 - τ N).toNat := by
  unfold msum
  rw [List.range_succ, List.map_append, List.sum_append]
  simp
theorem msum_le : ∀ (N : Nat) (τ : Nat → Int), (∀ n < N, 0 ≤ τ n) → msum N τ ≤ 18 * N
  | 0, τ, _ => by simp [msum]
  | N + 1, τ, h => by
    rw [msum_succ]
    have := msum_le N τ fun n hn => h n (by (first | lia | omega))
    have := h N (by (first | lia | omega))
    (first | lia | omega)
theorem msum_up : ∀ (N : Nat) (τ : Nat → Int) (n : Nat) (v : Int), N ≤ n → msum N (tauUp τ n v) = msum N τ
  | 0, τ, n, v, _ => rfl
  | N + 1, τ, n, v, h => by
    rw [msum_succ, msum_succ, msum_up N τ n v (by (first | lia | omega))]
    unfold tauUp
    rw [if_neg (by (first | lia | omega))]
theorem msum_lt : ∀ (N : Nat) (τ : Nat → Int) (n : Nat) (v : Int), n < N → τ n < v → τ n < 18 → msum N (tauUp τ n v) < msum N τ
  | 0, τ, n, v, h, _, _ => by (first | lia | omega)
  | N + 1, τ, n, v, h, h1, h2 => by
    rw [msum_succ, msum_succ]
    by_cases e : n = N
    · subst e
      rw [msum_up n τ n v (Nat.le_refl _)]
      unfold tauUp
      rw [if_pos rfl]
      (first | lia | omega)
    · have := msum_lt N τ n v (by (first | lia | omega)) h1 h2
      unfold tauUp at this ⊢
      rw [if_neg (show ¬ N = n by (first | lia | omega))]
      (first | lia | omega)

theorem mem_keysOf {N : Nat} {τ : Nat → Int} {p : Key} : p ∈ keysOf N τ ↔ ∃ n : Nat, n < N ∧ p = (τ n, (n : Int)) := by
  unfold keysOf
  simp only [List.mem_map, List.mem_range]
  constructor
  · rintro ⟨n, h, e⟩; exact ⟨n, h, e.symm⟩
  · rintro ⟨n, h, e⟩; exact ⟨n, h, e.symm⟩

theorem keysOf_up {N : Nat} {τ : Nat → Int} {n : Nat} {v : Int} (h : n < N) : ((τ n, (n : Int)) :: keysOf N (tauUp τ n v)).Perm ((v, (n : Int)) :: keysOf N τ) := by
  have hp := List.perm_cons_erase (show n ∈ List.range N by simpa using h)
  have hne : ∀ m ∈ (List.range N).erase n, m ≠ n := fun m hm e => by
    rw [e] at hm
    exact (List.Nodup.not_mem_erase List.nodup_range) hm
  have h1 : (keysOf N τ).Perm ((τ n, (n : Int)) :: ((List.range N).erase n).map fun m => (τ m, (m : Int))) := hp.map _
  have h2 : (keysOf N (tauUp τ n v)).Perm ((v, (n : Int)) :: ((List.range N).erase n).map fun m => (τ m, (m : Int))) := by
    have h3 := hp.map fun m => (tauUp τ n v m, (m : Int))
    rw [List.map_cons] at h3
    have e1 : tauUp τ n v n = v := by simp [tauUp]
    have e2 : ((List.range N).erase n).map (fun m => (tauUp τ n v m, (m : Int))) = ((List.range N).erase n).map fun m => (τ m, (m : Int)) := by
      apply List.map_congr_left
      intro m hm
      unfold tauUp
      rw [if_neg (hne m hm)]
    rw [e1, e2] at h3
    exact h3
  exact ((h2.cons _).trans (List.Perm.swap _ _ _)).trans (h1.symm.cons _)

structure HInv (bs : List (Int × Int)) (τ : Nat → Int) (ps : List Key) : Prop where
  hr : ∀ n < bs.length, Hr (bellA bs n) (bellB bs n) (τ n)
  low : ∀ n < bs.length, ∀ z, Hr (bellA bs n) (bellB bs n) z → z < τ n → z < 12
  mem : ∀ p, p ∈ ps ↔ ∃ n : Nat, n < bs.length ∧ p.2 = (n : Int) ∧ Hr (bellA bs n) (bellB bs n) p.1 ∧ p.1 < τ n
  srt : KSt ps
  bnd : ∀ p ∈ ps, ∀ m < bs.length, klt p (τ m, (m : Int)) = true
  len : ps.length + msum bs.length τ ≤ 18 * bs.length

theorem hr_self {a b : Int} : Hr a b a := ⟨Int.le_refl _, by simp⟩
theorem HInv.init {bs : List (Int × Int)} (ok : BellsOk bs) : HInv bs (bellA bs) [] where
  hr := fun n hn => hr_self
  low := fun n hn z hz h => by have := hz.1; (first | lia | omega)
  mem := fun p => by
    constructor
    · intro h; cases h
    · rintro ⟨n, hn, _, h1, h2⟩; have := h1.1; (first | lia | omega)
  srt := List.Pairwise.nil
  bnd := fun p hp => by cases hp
  len := by
    have := msum_le bs.length (bellA bs) fun n hn => (ok n hn).1
    simpa using this

theorem HInv.step {bs : List (Int × Int)} {τ : Nat → Int} {ps : List Key} (ok : BellsOk bs) (I : HInv bs τ ps) {n : Nat} (hn : n < bs.length) (h12 : τ n < 12) (hmin : ∀ m < bs.length, klt (τ m, (m : Int)) (τ n, (n : Int)) = false) :
    HInv bs (tauUp τ n (τ n + bellB bs n)) (ps ++ [(τ n, (n : Int))]) ∧ msum bs.length (tauUp τ n (τ n + bellB bs n)) < msum bs.length τ := by
  have hb := (ok n hn).2.2.1
  have hlt := msum_lt bs.length τ n (τ n + bellB bs n) hn (by (first | lia | omega)) (by (first | lia | omega))
  refine ⟨⟨fun m hm => ?_, fun m hm z hz h => ?_, fun p => ?_, ?_, fun p hp m hm => ?_, ?_⟩, hlt⟩
  · unfold tauUp
    by_cases e : m = n
    · rw [if_pos e, e]; exact hr_step hb (I.hr n hn)
    · rw [if_neg e]; exact I.hr m hm
  · unfold tauUp at h
    by_cases e : m = n
    · rw [if_pos e] at h
      subst e
      by_cases q : τ m < z
      · have := hr_gap hb (I.hr m hm) hz q; (first | lia | omega)
      · (first | lia | omega)
    · rw [if_neg e] at h; exact I.low m hm z hz h
  · rw [List.mem_append, I.mem, List.mem_singleton]
    constructor
    · rintro (⟨m, h1, h2, h3, h4⟩ | rfl)
      · refine ⟨m, h1, h2, h3, ?_⟩
        unfold tauUp
        by_cases e : m = n
        · rw [if_pos e, ← e]; subst e; (first | lia | omega)
        · rw [if_neg e]; exact h4
      · refine ⟨n, hn, rfl, I.hr n hn, ?_⟩
        unfold tauUp
        rw [if_pos rfl]
        show τ n < τ n + bellB bs n
        (first | lia | omega)
    · rintro ⟨m, h1, h2, h3, h4⟩
      unfold tauUp at h4
      by_cases e : m = n
      · rw [if_pos e] at h4
        subst e
        by_cases q : p.1 < τ m
        · exact .inl ⟨m, h1, h2, h3, q⟩
        · right
          have : p.1 = τ m := by
            rcases Int.lt_or_le (τ m) p.1 with r | r
            · have := hr_gap hb (I.hr m hn) h3 r; (first | lia | omega)
            · (first | lia | omega)
          exact Prod.ext this h2
      · rw [if_neg e] at h4
        exact .inl ⟨m, h1, h2, h3, h4⟩
  · unfold KSt
    rw [List.pairwise_append]
    refine ⟨I.srt, List.pairwise_singleton _ _, fun a ha b hb => ?_⟩
    rw [List.mem_singleton.mp hb]
    exact I.bnd a ha n hn
  · unfold tauUp
    rcases List.mem_append.mp hp with hp | hp
    · have h1 := klt_iff.mp (I.bnd p hp m hm)
      by_cases e : m = n
      · rw [if_pos e, klt_iff]
        subst e
        dsimp only at h1 ⊢; (first | lia | omega)
      · rw [if_neg e]; exact I.bnd p hp m hm
    · rw [List.mem_singleton.mp hp, klt_iff]
      by_cases e : m = n
      · rw [if_pos e]
        dsimp only; (first | lia | omega)
      · rw [if_neg e]
        have h1 := klt_no.mp (hmin m hm)
        dsimp only at h1 ⊢; (first | lia | omega)
  · have := I.len
    rw [List.length_append, List.length_singleton]
    (first | lia | omega)

noncomputable def r12 (a b : Int) : List Int := (List.range (Builtin.Range.rangeSize a 12 b).toNat).map fun i : Nat => a + (i : Int) * b
theorem mem_r12 {a b y : Int} (hb : 0 < b) : y ∈ r12 a b ↔ Hr a b y ∧ y < 12 := by
  unfold r12 Hr Builtin.Range.rangeSize
  rw [if_pos (by (first | lia | omega))]
  simp only [List.mem_map, List.mem_range]
  constructor
  · rintro ⟨i, hi, rfl⟩
    split at hi
    · have h1 : (i : Int) ≤ (12 - a - 1) / b := by (first | lia | omega)
      have h2 := Int.mul_le_of_le_ediv hb h1
      have h3 : 0 ≤ (i : Int) * b := Int.mul_nonneg (by (first | lia | omega)) (by (first | lia | omega))
      refine ⟨⟨by (first | lia | omega), ?_⟩, by (first | lia | omega)⟩
      rw [show a + (i : Int) * b - a = (i : Int) * b by (first | lia | omega)]; simp
    · simp at hi
  · rintro ⟨⟨h1, h2⟩, h3⟩
    obtain ⟨i, hi⟩ := Int.eq_ofNat_of_zero_le (Int.ediv_nonneg (show 0 ≤ y - a by (first | lia | omega)) (show 0 ≤ b by (first | lia | omega)))
    have h4 := Int.mul_ediv_add_emod (y - a) b
    rw [h2, hi, Int.mul_comm] at h4
    refine ⟨i, ?_, by show a + (i : Int) * b = y; (first | lia | omega)⟩
    rw [if_pos (by (first | lia | omega))]
    have : (i : Int) ≤ (12 - a - 1) / b := by
      rw [Int.le_ediv_iff_mul_le hb]; (first | lia | omega)
    (first | lia | omega)
noncomputable def css12 (bs : List (Int × Int)) : List (List Int) := bs.map fun p => r12 p.1 p.2
theorem css12_get {bs : List (Int × Int)} {n : Nat} (hn : n < bs.length) : (css12 bs).getD n [] = r12 (bellA bs n) (bellB bs n) := by
  unfold css12 bellA bellB
  simp [hn]

theorem ringsP_mem {css : List (List Int)} {i : Nat} {p : Key} : p ∈ ringsP css i 0 ↔ ∃ h n : Nat, h < i ∧ n < css.length ∧ (h : Int) ∈ css.getD n [] ∧ p = ((h : Int), (n : Int)) := by
  have h0 : rowL css i 0 = [] := by simp [rowL]
  unfold ringsP
  rw [h0, List.append_nil, List.mem_flatMap]
  unfold rowL
  constructor
  · rintro ⟨h, h1, h2⟩
    obtain ⟨n, h3, rfl⟩ := List.mem_map.mp h2
    obtain ⟨h4, h5⟩ := List.mem_filter.mp h3
    refine ⟨h, n, List.mem_range.mp h1, List.mem_range.mp h4, ?_, rfl⟩
    simpa using h5
  · rintro ⟨h, n, h1, h2, h3, rfl⟩
    refine ⟨h, List.mem_range.mpr h1, List.mem_map.mpr ⟨n, List.mem_filter.mpr ⟨List.mem_range.mpr h2, ?_⟩, rfl⟩⟩
    simpa using h3
theorem ringsP_srt (css : List (List Int)) (i : Nat) : KSt (ringsP css i 0) := by
  have h0 : rowL css i 0 = [] := by simp [rowL]
  unfold ringsP KSt
  rw [h0, List.append_nil, List.pairwise_flatMap]
  constructor
  · intro h hh
    unfold rowL
    refine List.pairwise_map.mpr ((List.Pairwise.filter _ List.pairwise_lt_range).imp fun {a b} q => ?_)
    rw [klt_iff]
    exact .inr ⟨rfl, Int.ofNat_lt.mpr q⟩
  · refine List.pairwise_lt_range.imp fun {a b} q x hx y hy => ?_
    unfold rowL at hx hy
    obtain ⟨n, _, rfl⟩ := List.mem_map.mp hx
    obtain ⟨m, _, rfl⟩ := List.mem_map.mp hy
    rw [klt_iff]
    exact .inl (Int.ofNat_lt.mpr q)

theorem HInv.fin {bs : List (Int × Int)} {τ : Nat → Int} {ps : List Key} (ok : BellsOk bs) (I : HInv bs τ ps) (h : ∀ n < bs.length, 12 ≤ τ n) :
    ps = ringsP (css12 bs) 12 0 ∧ ∀ n < bs.length, τ n = nx (bellA bs n) (bellB bs n) 12 := by
  have hlen : (css12 bs).length = bs.length := by simp [css12]
  constructor
  · refine kst_eq I.srt (ringsP_srt _ _) fun p => ?_
    rw [I.mem, ringsP_mem, hlen]
    constructor
    · rintro ⟨n, h1, h2, h3, h4⟩
      have h5 := I.low n h1 _ h3 h4
      have h6 := (ok n h1).1
      have h7 := h3.1
      refine ⟨p.1.toNat, n, by (first | lia | omega), h1, ?_, Prod.ext (by show p.1 = _; (first | lia | omega)) h2⟩
      rw [css12_get h1, mem_r12 (ok n h1).2.2.1, show ((p.1.toNat : Nat) : Int) = p.1 by (first | lia | omega)]
      exact ⟨h3, h5⟩
    · rintro ⟨k, n, h1, h2, h3, rfl⟩
      rw [css12_get h2, mem_r12 (ok n h2).2.2.1] at h3
      refine ⟨n, h2, rfl, h3.1, ?_⟩
      have := h n h2
      show (k : Int) < τ n
      (first | lia | omega)
  · intro n hn
    have hb := (ok n hn).2.2.1
    refine nx_uniq hb (I.hr n hn) (h n hn) fun z hz h1 => ?_
    rcases Int.lt_or_le z (τ n) with q | q
    · have := I.low n hn z hz q; (first | lia | omega)
    · exact q

theorem keysOf_congr {N : Nat} {τ τ' : Nat → Int} (h : ∀ n < N, τ n = τ' n) : keysOf N τ = keysOf N τ' := by
  unfold keysOf
  apply List.map_congr_left
  intro n hn
  rw [h n (List.mem_range.mp hn)]
end Mine

namespace Mine
open PySem PySem.W PyProof.Rows PySem.Calls
set_option maxRecDepth 100000
set_option linter.unusedVariables false
section
variable {n : Nat} {lt : Nat → Nat → Bool} {cmp : Nat → Nat → (Bool → Shared → Prop) → Shared → Prop} {s : Shared}

structure TOrd (n : Nat) (lt : Nat → Nat → Bool) : Prop where
  tr : ∀ i j k, lt i j = true → lt j k = true → lt i k = true
  tot : ∀ i j, i < n → j < n → i ≠ j → lt i j = false → lt j i = true
  asy : ∀ i j, lt i j = true → lt j i = false

abbrev PP (n : Nat) (p : Array Nat) : Prop := p.Perm (List.range n).toArray
abbrev P_ (p : Array Nat) (i : Nat) : Nat := p.getD i 0
theorem PP.size {p : Array Nat} (h : PP n p) : p.size = n := by have := h.size_eq; simpa using this
theorem PP.bel {p : Array Nat} (h : PP n p) {i : Nat} (hi : i < n) : P_ p i < n := by
  have hs := h.size
  have e : P_ p i = p[i] := by simp [Array.getD, hs, hi]
  rw [e]
  have : p[i] ∈ (List.range n).toArray := h.mem_iff.mp (Array.getElem_mem _)
  simpa using this
theorem PP.inj {p : Array Nat} (h : PP n p) {i j : Nat} (hi : i < n) (hj : j < n) (e : P_ p i = P_ p j) : i = j := by
  have hs := h.size
  have hn : p.toList.Nodup := by
    have h2 : p.toList.Perm (List.range n) := by simpa using h.toList
    exact h2.nodup_iff.mpr List.nodup_range
  have e1 : P_ p i = p.toList[i]'(by simpa [hs] using hi) := by simp [Array.getD, hs, hi]
  have e2 : P_ p j = p.toList[j]'(by simpa [hs] using hj) := by simp [Array.getD, hs, hj]
  rw [e1, e2] at e
  have hw := List.pairwise_iff_getElem.mp hn
  rcases Nat.lt_trichotomy i j with q | q | q
  · exact absurd e (hw i j _ _ q)
  · exact q
  · exact absurd e.symm (hw j i _ _ q)

def Up (lt : Nat → Nat → Bool) (p : Array Nat) (k : Nat) : Prop := ∀ i j, i < j → j < k → lt (P_ p i) (P_ p j) = true
def Dn (lt : Nat → Nat → Bool) (p : Array Nat) (k : Nat) : Prop := ∀ i j, i < j → j < k → lt (P_ p j) (P_ p i) = true

theorem up_next (O : TOrd n lt) {p : Array Nat} {k : Nat} (h1 : 1 ≤ k) (u : Up lt p k) (h : lt (P_ p (k - 1)) (P_ p k) = true) : Up lt p (k + 1) := fun i j hij hj => by
  by_cases hk : j < k
  · exact u i j hij hk
  · obtain rfl : j = k := by (first | lia | omega)
    by_cases hi : i = j - 1
    · rw [hi]; exact h
    · exact O.tr _ _ _ (u i (j - 1) (by (first | lia | omega)) (by (first | lia | omega))) h
theorem dn_next (O : TOrd n lt) {p : Array Nat} {k : Nat} (h1 : 1 ≤ k) (u : Dn lt p k) (h : lt (P_ p k) (P_ p (k - 1)) = true) : Dn lt p (k + 1) := fun i j hij hj => by
  by_cases hk : j < k
  · exact u i j hij hk
  · obtain rfl : j = k := by (first | lia | omega)
    by_cases hi : i = j - 1
    · rw [hi]; exact h
    · exact O.tr _ _ _ h (u i (j - 1) (by (first | lia | omega)) (by (first | lia | omega)))

variable (O : TOrd n lt) (hc : ∀ i j C, i < n → j < n → C (lt i j) s → cmp i j C s)
include O hc

theorem asc_wp {p : Array Nat} (hp : PP n p) {Q : Nat → Shared → Prop} : ∀ (f k : Nat), 1 ≤ k → k + f = n → Up lt p k →
    (∀ m, k ≤ m → m ≤ n → Up lt p m → (m < n → lt (P_ p m) (P_ p (m - 1)) = true) → Q m s) → (kas_asc p f k).kasWp cmp Q s
  | 0, k, h1, hf, u, q => q k (Nat.le_refl _) (by (first | lia | omega)) u (fun h => by (first | lia | omega))
  | f + 1, k, h1, hf, u, q => by
    refine hc _ _ _ (hp.bel (by (first | lia | omega))) (hp.bel (by (first | lia | omega))) ?_
    cases hl : lt (P_ p k) (P_ p (k - 1)) with
    | true =>
      show KasT.kasWp cmp (if true = true then _ else _) Q s
      rw [if_pos rfl]
      exact q k (Nat.le_refl _) (by (first | lia | omega)) u fun _ => hl
    | false =>
      show KasT.kasWp cmp (if false = true then _ else _) Q s
      rw [if_neg (by simp)]
      have h2 := O.tot _ _ (hp.bel (by (first | lia | omega))) (hp.bel (by (first | lia | omega))) (fun e => by have := hp.inj (by (first | lia | omega)) (by (first | lia | omega)) e; (first | lia | omega)) hl
      exact asc_wp hp f (k + 1) (by (first | lia | omega)) (by (first | lia | omega)) (up_next O h1 u h2) fun m a b c d => q m (by (first | lia | omega)) b c d

theorem desc_wp {p : Array Nat} (hp : PP n p) {Q : Array Nat × Nat × Nat → Shared → Prop} : ∀ (f k : Nat), 1 ≤ k → k + f = n → Dn lt p k →
    (∀ m, k ≤ m → m ≤ n → Dn lt p m → Q (p, m, 0) s) → (kas_desc f p k 0).kasWp cmp Q s
  | 0, k, h1, hf, u, q => q k (Nat.le_refl _) (by (first | lia | omega)) u
  | f + 1, k, h1, hf, u, q => by
    refine hc _ _ _ (hp.bel (by (first | lia | omega))) (hp.bel (by (first | lia | omega))) ?_
    cases hl : lt (P_ p k) (P_ p (k - 1)) with
    | true =>
      show KasT.kasWp cmp (if true = true then (if 0 > 0 then _ else _) else _) Q s
      rw [if_pos rfl, if_neg (by simp)]
      exact desc_wp hp f (k + 1) (by (first | lia | omega)) (by (first | lia | omega)) (dn_next O h1 u hl) fun m a b c => q m (by (first | lia | omega)) b c
    | false =>
      show KasT.kasWp cmp (if false = true then _ else _) Q s
      rw [if_neg (by simp)]
      have h2 := O.tot _ _ (hp.bel (by (first | lia | omega))) (hp.bel (by (first | lia | omega))) (fun e => by have := hp.inj (by (first | lia | omega)) (by (first | lia | omega)) e; (first | lia | omega)) hl
      refine hc _ _ _ (hp.bel (by (first | lia | omega))) (hp.bel (by (first | lia | omega))) ?_
      have h3 : lt (p.getD (k - 1) 0) (p.getD k 0) = true := h2
      rw [h3]
      show KasT.kasWp cmp (if true = true then _ else _) Q s
      rw [if_pos rfl]
      exact q k (Nat.le_refl _) (by (first | lia | omega)) u

omit O hc in
theorem rev_up {p : Array Nat} (hp : PP n p) {k : Nat} (hk : k ≤ n) (u : Dn lt p k) : Up lt (kas_rev p 0 k) k := fun i j hij hj => by
  have g : ∀ i, i < k → P_ (kas_rev p 0 k) i = P_ p (k - 1 - i) := fun i hi => by
    have h := getElem?_mirror_all (xs := p) (i := 0) (j := k) (by rw [hp.size]; exact hk) i
    rw [if_pos ⟨Nat.zero_le _, hi⟩, Nat.zero_add] at h
    unfold P_ kas_rev
    rw [Array.getD_eq_getD_getElem?, Array.getD_eq_getD_getElem?, h]
  rw [g i (by (first | lia | omega)), g j hj]
  exact u _ _ (by (first | lia | omega)) (by (first | lia | omega))
omit O hc in
theorem rev_pp {p : Array Nat} (hp : PP n p) {k : Nat} : PP n (kas_rev p 0 k) := (mirror_perm _ _ _ _).trans hp

theorem tail3_wp {p : Array Nat} (hp : PP n p) {Q : Nat × Array Nat → Shared → Prop} {k : Nat} (h1 : 1 ≤ k) (hk : k ≤ n) (u : Dn lt p k)
    (q : ∀ m p', 1 ≤ m → m ≤ n → PP n p' → Up lt p' m → Q (m, p') s) : (kas_tail3 k n p).kasWp cmp Q s := by
  unfold kas_tail3
  rw [KasT.kasWp_bind]
  refine asc_wp O hc (rev_pp hp) (n - k) k h1 (by (first | lia | omega)) (rev_up hp hk u) fun m a b c _ => ?_
  exact q m _ (Nat.le_trans h1 a) b (rev_pp hp) c

theorem descPart_wp {p : Array Nat} (hp : PP n p) {Q : Nat × Array Nat → Shared → Prop} {k : Nat} (h1 : 1 ≤ k) (hk : k + 1 ≤ n) (u : Dn lt p (k + 1))
    (q : ∀ m p', 1 ≤ m → m ≤ n → PP n p' → Up lt p' m → Q (m, p') s) : (kas_descPart k n p).kasWp cmp Q s := by
  unfold kas_descPart
  rw [KasT.kasWp_bind]
  refine desc_wp O hc hp (n - (k + 1)) (k + 1) (by (first | lia | omega)) (by (first | lia | omega)) u fun m a b c => ?_
  show KasT.kasWp cmp (if 0 > 0 then _ else _) Q s
  rw [if_neg (by simp)]
  show KasT.kasWp cmp (kas_tail3 m n p) Q s
  exact tail3_wp O hc hp (by (first | lia | omega)) b c q

theorem count_wp {p : Array Nat} (hp : PP n p) {Q : Nat × Array Nat → Shared → Prop} (hn : 1 ≤ n)
    (q : ∀ m p', 1 ≤ m → m ≤ n → PP n p' → Up lt p' m → Q (m, p') s) : (kas_count n p).kasWp cmp Q s := by
  unfold kas_count
  rw [KasT.kasWp_bind]
  refine asc_wp O hc hp (n - 1) 1 (Nat.le_refl _) (by (first | lia | omega)) (fun i j hij hj => by (first | lia | omega)) fun m a b c d => ?_
  by_cases hm : m = n
  · rw [if_pos (by simpa using hm)]
    exact q m p a b hp c
  · rw [if_neg (by simpa using hm)]
    by_cases h1 : m > 1
    · rw [if_pos h1]
      refine hc _ _ _ (hp.bel (by (first | lia | omega))) (hp.bel (by (first | lia | omega))) ?_
      have h3 : lt (p.getD 0 0) (p.getD (m - 1) 0) = true := c 0 (m - 1) (by (first | lia | omega)) (by (first | lia | omega))
      rw [h3]
      show KasT.kasWp cmp (if true = true then _ else _) Q s
      rw [if_pos rfl]
      exact q m p a b hp c
    · rw [if_neg h1]
      obtain rfl : m = 1 := by (first | lia | omega)
      refine descPart_wp O hc hp (Nat.le_refl _) (by (first | lia | omega)) (fun i j hij hj => ?_) q
      obtain rfl : i = 0 := by (first | lia | omega)
      obtain rfl : j = 1 := by (first | lia | omega)
      exact d (by (first | lia | omega))

theorem place_wp {p : Array Nat} (hp : PP n p) {Q : Nat → Shared → Prop} {k : Nat} (hk : k < n) (u : Up lt p k)
    (q : ∀ l, l ≤ k → (∀ i, i < l → lt (P_ p i) (P_ p k) = true) → (∀ i, l ≤ i → i < k → lt (P_ p k) (P_ p i) = true) → Q l s) :
    ∀ (f l r : Nat), r ≤ k → l ≤ r → r - l ≤ f → (∀ i, i < l → lt (P_ p i) (P_ p k) = true) → (∀ i, r ≤ i → i < k → lt (P_ p k) (P_ p i) = true) → (kas_place p k f l r).kasWp cmp Q s
  | 0, l, r, hr, hlr, hf, a, b => q l (by (first | lia | omega)) a fun i h => b i (by (first | lia | omega))
  | f + 1, l, r, hr, hlr, hf, a, b => by
    unfold kas_place
    by_cases h : l ≥ r
    · rw [if_pos h]
      exact q l (by (first | lia | omega)) a fun i h => b i (by (first | lia | omega))
    · rw [if_neg h]
      refine hc _ _ _ (hp.bel (by (first | lia | omega))) (hp.bel (by (first | lia | omega))) ?_
      cases hl : lt (p.getD k 0) (p.getD ((l + r) / 2) 0) with
      | true =>
        show KasT.kasWp cmp (if true = true then _ else _) Q s
        rw [if_pos rfl]
        refine place_wp hp hk u q f l ((l + r) / 2) (by (first | lia | omega)) (by (first | lia | omega)) (by (first | lia | omega)) a fun i h1 h2 => ?_
        by_cases e : i = (l + r) / 2
        · rw [e]; exact hl
        · exact O.tr _ _ _ hl (u _ _ (by (first | lia | omega)) (by (first | lia | omega)))
      | false =>
        show KasT.kasWp cmp (if false = true then _ else _) Q s
        rw [if_neg (by simp)]
        have h2 := O.tot _ _ (hp.bel (by (first | lia | omega))) (hp.bel (by (first | lia | omega))) (fun e => by have := hp.inj (by (first | lia | omega)) (by (first | lia | omega)) e; (first | lia | omega)) hl
        refine place_wp hp hk u q f ((l + r) / 2 + 1) r hr (by (first | lia | omega)) (by (first | lia | omega)) (fun i h1 => ?_) b
        by_cases e : i = (l + r) / 2
        · rw [e]; exact h2
        · exact O.tr _ _ _ (u _ _ (by (first | lia | omega)) (by (first | lia | omega))) h2

omit O hc in
theorem bubble_up {p : Array Nat} (hp : PP n p) {k l : Nat} (hk : k < n) (hl : l ≤ k) (u : Up lt p k) (a : ∀ i, i < l → lt (P_ p i) (P_ p k) = true) (b : ∀ i, l ≤ i → i < k → lt (P_ p k) (P_ p i) = true) :
    Up lt (bubble p k (k - l)) (k + 1) := fun i j hij hj => by
  have g : ∀ i, i < k + 1 → P_ (bubble p k (k - l)) i = if i = l then P_ p k else if l < i then P_ p (i - 1) else P_ p i := fun i hi => by
    have h := getElem?_bubble (xs := p) (src := k) (by rw [hp.size]; exact hk) (k - l) (by (first | lia | omega)) i
    rw [show k - (k - l) = l by (first | lia | omega)] at h
    unfold P_
    rw [Array.getD_eq_getD_getElem?, h]
    by_cases h1 : i = l
    · rw [if_pos h1, if_pos h1, Array.getD_eq_getD_getElem?]
    · rw [if_neg h1, if_neg h1]
      by_cases h2 : l < i
      · rw [if_pos ⟨h2, by (first | lia | omega)⟩, if_pos h2, Array.getD_eq_getD_getElem?]
      · rw [if_neg (by (first | lia | omega)), if_neg h2, Array.getD_eq_getD_getElem?]
  rw [g i (by (first | lia | omega)), g j hj]
  by_cases h1 : i = l
  · rw [if_pos h1, if_neg (by (first | lia | omega)), if_pos (by (first | lia | omega))]
    exact b _ (by (first | lia | omega)) (by (first | lia | omega))
  · rw [if_neg h1]
    by_cases h2 : j = l
    · rw [if_pos h2, if_neg (by (first | lia | omega))]
      exact a i (by (first | lia | omega))
    · rw [if_neg h2]
      by_cases h3 : l < i
      · rw [if_pos h3, if_pos (by (first | lia | omega))]
        exact u _ _ (by (first | lia | omega)) (by (first | lia | omega))
      · rw [if_neg h3]
        by_cases h4 : l < j
        · rw [if_pos h4]
          exact u _ _ (by (first | lia | omega)) (by (first | lia | omega))
        · rw [if_neg h4]
          exact u _ _ (by (first | lia | omega)) (by (first | lia | omega))

theorem bin_wp {Q : Array Nat → Shared → Prop} (q : ∀ p, PP n p → Up lt p n → Q p s) : ∀ (f k : Nat) (p : Array Nat), k + f = n → PP n p → Up lt p k → (kas_bin f p k).kasWp cmp Q s
  | 0, k, p, hf, hp, u => q p hp (by rw [← hf]; exact u)
  | f + 1, k, p, hf, hp, u => by
    unfold kas_bin
    rw [KasT.kasWp_bind]
    refine place_wp O hc hp (by (first | lia | omega)) u (fun l hl a b => ?_) k 0 k (Nat.le_refl _) (Nat.zero_le _) (by (first | lia | omega)) (fun i h => by (first | lia | omega)) (fun i h1 h2 => by (first | lia | omega))
    exact bin_wp q f (k + 1) _ (by (first | lia | omega)) ((bubble_perm _ _ _).trans hp) (bubble_up hp (by (first | lia | omega)) hl u a b)

theorem sort_wp {Q : Array Nat → Shared → Prop} (hn : 1 ≤ n) (q : ∀ p, PP n p → Up lt p n → Q p s) : (kas_sort n).kasWp cmp Q s := by
  unfold kas_sort
  rw [KasT.kasWp_bind]
  refine count_wp O hc (Array.Perm.refl _) hn fun m p h1 h2 hp u => ?_
  by_cases h : m < n
  · show KasT.kasWp cmp (if m < n then _ else _) Q s
    rw [if_pos h]
    show KasT.kasWp cmp (kas_bin (n - max m 1) p (max m 1)) Q s
    rw [show max m 1 = m by (first | lia | omega)]
    exact bin_wp O hc q (n - m) m p (by (first | lia | omega)) hp u
  · show KasT.kasWp cmp (if m < n then _ else _) Q s
    rw [if_neg h]
    obtain rfl : m = n := by (first | lia | omega)
    exact q p hp u
end
end Mine

namespace Mine
open PySem PySem.W PyProof.Rows PySem.Calls
set_option maxRecDepth 100000
set_option linter.unusedVariables false

theorem sub_at {α : Type} {L L2 : List α} {p : α} (hp : p ∈ L) (h : ∀ q ∈ L, q ∈ L2) : p ∈ L2 := h p hp
abbrev pdOf (p : Int × Int) : PyData := .tuple [.int p.1, .int p.2]
theorem readsAll_tups {h : Heap} {vs : List Value} {ps : List (Int × Int)} (t : TupsAt h vs ps) : ∃ as, ReadsAll h vs (ps.map pdOf) as := by
  induction t with
  | nil => exact ⟨_, .nil⟩
  | cons e _ ih =>
    obtain ⟨as, r⟩ := ih
    exact ⟨_, .cons (reads_tuple_at e rfl rfl (.cons (.int _ _) (.cons (.int _ _) .nil))) r⟩
theorem canLay_pd : ∀ ps : List (Int × Int), PyData.canLayAll0 (ps.map pdOf) = true
  | [] => rfl
  | p :: r => by simp [PyData.canLayAll0, PyData.canLay0, canLay_pd r]
theorem depth_pd : ∀ ps : List (Int × Int), PyData.depthAll (ps.map pdOf) ≤ 1
  | [] => by simp [PyData.depthAll]
  | p :: r => by
    have := depth_pd r
    simp only [List.map_cons, PyData.depthAll, PyData.depth]
    omega
theorem shaped_pd (ps : List (Int × Int)) : SeqAt.shaped (.list (ps.map pdOf)) = true := by
  have h1 := canLay_pd ps
  have h2 := depth_pd ps
  unfold SeqAt.shaped
  simp only [PyData.canLay0, PyData.depth, h1, Bool.true_and]
  exact decide_eq_true (by omega)
theorem eqv_pd : ∀ ps : List (Int × Int), PyData.eqvAll (ps.map pdOf) (ps.map pdOf) = true
  | [] => by simp [PyData.eqvAll]
  | p :: r => by simp [PyData.eqvAll, PyData.eqv, eqv_pd r]
section
variable {prog : Program} {w : World} {A : Around} {E : Value → Shared → Prop} {s : Shared} {a b : Addr} {xs ys : List Value} {ps : List (Int × Int)} {n k : Nat} {Q : Value → Shared → Prop}
theorem eq_tups (ha : s.heap.get? a = some (W.listOf xs.toArray n)) (hb : s.heap.get? b = some (W.listOf ys.toArray k)) (ta : TupsAt s.heap xs ps) (tb : TupsAt s.heap ys ps) (hu : A.units + 64 < cLine) (h : Q (.bool true) s) :
    wpAny (model prog w) A (compareOp .Eq (.ref a) (.ref b)) Q E s := by
  obtain ⟨as, ra⟩ := readsAll_tups ta
  obtain ⟨bs, rb⟩ := readsAll_tups tb
  refine eq_dataH (reads_list_at ha rfl rfl ra) (reads_list_at hb rfl rfl rb) (shaped_pd ps) (shaped_pd ps) hu ?_
  have e : PyData.eqv (.list (ps.map pdOf)) (.list (ps.map pdOf)) = true := by simp only [PyData.eqv]; exact eqv_pd ps
  rw [e]; exact h
theorem ne_tups (ha : s.heap.get? a = some (W.listOf xs.toArray n)) (hb : s.heap.get? b = some (W.listOf ys.toArray k)) (ta : TupsAt s.heap xs ps) (tb : TupsAt s.heap ys ps) (hu : A.units + 64 < cLine) (h : Q (.bool false) s) :
    wpAny (model prog w) A (compareOp .NotEq (.ref a) (.ref b)) Q E s := by
  obtain ⟨as, ra⟩ := readsAll_tups ta
  obtain ⟨bs, rb⟩ := readsAll_tups tb
  refine ne_dataH (reads_list_at ha rfl rfl ra) (reads_list_at hb rfl rfl rb) (shaped_pd ps) (shaped_pd ps) hu ?_
  have e : PyData.eqv (.list (ps.map pdOf)) (.list (ps.map pdOf)) = true := by simp only [PyData.eqv]; exact eqv_pd ps
  rw [e]; exact h
end

section
variable {prog : Program} {w : World} {A : Around} {E : Value → Shared → Prop} {s : Shared} {env : Env}
theorem my_for_lit {x : Str} {px pos : Pos} {iter : Expr} {body : List Stmt} {Q : Flow → Shared → Prop} {g : Heap} {items : List Value} (J : Addr → Addr → Nat → (Str → Option Value) → Heap → Prop)
    (hh : A.handled = none) (hk : env.scope.kind = .function) (hx : env.kindOf x = some .local)
    (stable : ∀ I l i m h h', J I l i m h → (∀ b o, b ≠ env.locals → b ≠ I → h.get? b = some o → h'.get? b = some o) → J I l i m h')
    (islist : ∀ I l i m h, J I l i m h → h.IsList l items.toArray)
    (h : wpAny (model prog w) A (eval iter env) (fun xv s₁ => wpAny (model prog w) A (pyIter xv) (fun it s₂ => ∃ I l m h tk, it = .ref I ∧ s₂ = { s with heap := h, toks := tk } ∧ h.IsListIter I l 0 ∧ g.get? I = none ∧ I ≠ env.locals ∧ Fr g env.locals h m ∧ J I l 0 m h) (fun _ _ => False) s₁) (fun _ _ => False) s)
    (turn : ∀ i I l ro v m h tk, items[i]? = some v → J I l i m h → g.get? I = none → I ≠ env.locals → ro.cls = .type "list_iterator" → h.get? I = some ro → Fr g env.locals h (fun y => if y = x then some v else m y) →
      wpAny (model prog w) A (execs body env) (fun f s₃ => match f with
          | .next | .cont => ∃ h' tk' m', s₃ = { s with heap := h', toks := tk' } ∧ h'.get? I = some ro ∧ Fr g env.locals h' m' ∧ J I l (i + 1) m' h'
          | .brk => Q .next s₃
          | .ret v => Q (.ret v) s₃) (fun _ _ => False) { s with heap := h, toks := tk })
    (done : ∀ I l m h tk, J I l items.length m h → Fr g env.locals h m → Q .next { s with heap := h, toks := tk })
    (hs : ∀ x, foldedSetIterable iter env x = pure x := by intro _; rfl) :
    wpAny (model prog w) A (exec (.For (.Name x px) iter body [] pos) env) Q (fun _ _ => False) s := by
  refine my_for (fun k it s' => ∃ i I l m h tk, it = .ref I ∧ s' = { s with heap := h, toks := tk } ∧ k = items.length - i ∧ i ≤ items.length ∧ h.IsListIter I l i ∧ g.get? I = none ∧ I ≠ env.locals ∧ Fr g env.locals h m ∧ J I l i m h)
    (wpAny_mono h (fun xv s₁ h₁ => wpAny_mono h₁ (fun it s₂ h₂ => ?_) fun _ _ x => x) fun _ _ x => x) ?_ (hs := hs)
  · obtain ⟨I, l, m, h, tk, rfl, rfl, hI, hg, hL, F, j⟩ := h₂
    exact ⟨items.length, 0, I, l, m, h, tk, rfl, rfl, rfl, Nat.zero_le _, hI, hg, hL, F, j⟩
  · rintro k it s' ⟨i, I, l, m, hp, tk, rfl, rfl, rfl, hi, hI, hg, hL, F, j⟩
    by_cases hlt : i < items.length
    · have hv : items[i]? = some items[i] := List.getElem?_eq_getElem hlt
      refine wpAny_pyNext_list_item hI (islist _ _ _ _ _ j) (x := items[i]) (by rw [List.getElem?_toArray]; exact hv) fun h' hI' hs' => ?_
      have F' := fr_chg F (fun b o hb e => hs'.extBut b o hb e) hL hg
      have j' := stable I l i m hp h' j fun b o _ hb e => hs'.extBut b o hb e
      refine wpAny_assign_Name ?_
      refine wpAny_storeName_local hx F'.ns (fun h₂ hn hs₂ => ?_) (by show (env.scope.kind == .class || (env.scope.kind == .module && _)) = false; rw [hk]; rfl)
      have F₂ := F'.set hn hs₂
      have j₂ := stable I l i m h' h₂ j' fun b o hb _ e => (hs₂.2 b hb).trans e
      obtain ⟨ro, hro, hcl, hda⟩ := hI'
      have hI₂ : h₂.get? I = some ro := (hs₂.2 I hL).trans hro
      refine wpAny_mono (turn i I l ro _ m h₂ _ hv j₂ hg hL hcl hI₂ F₂) (fun f s₃ h₃ => ?_) fun _ _ x => x
      have conv : (∃ h' tk' m', s₃ = { s with heap := h', toks := tk' } ∧ h'.get? I = some ro ∧ Fr g env.locals h' m' ∧ J I l (i + 1) m' h') →
          ∃ m, m < items.length - i ∧ ∃ i I' l' m' h tk, Value.ref I = .ref I' ∧ s₃ = { s with heap := h, toks := tk } ∧ m = items.length - i ∧ i ≤ items.length ∧ h.IsListIter I' l' i ∧ g.get? I' = none ∧ I' ≠ env.locals ∧ Fr g env.locals h m' ∧ J I' l' i m' h := by
        rintro ⟨h', tk', m', rfl, q1, q2, q3⟩
        exact ⟨items.length - (i + 1), by omega, i + 1, I, l, m', h', tk', rfl, rfl, rfl, by omega, ⟨ro, q1, hcl, hda⟩, hg, hL, q2, q3⟩
      cases f with
      | next => exact conv h₃
      | cont => exact conv h₃
      | brk => exact h₃
      | ret v => exact h₃
    · obtain rfl : i = items.length := by omega
      refine wpAny_pyNext_list_end hh hI (islist _ _ _ _ _ j) (by rw [List.getElem?_toArray]; exact List.getElem?_eq_none (Nat.le_refl _)) fun h' hk => ?_
      exact done I l m h' tk (stable I l _ m hp h' j fun b o _ hb e => hk b o hb e) (fr_chg F (fun b o hb e => hk b o hb e) hL hg)
end

inductive ListsIn : List (Addr × Obj) → List Value → List (List Int) → Prop
  | nil : ListsIn [] [] []
  | snoc {C : List (Addr × Obj)} {vs : List Value} {css : List (List Int)} {a : Addr} {ys : List Value} {cs : List Int} {n : Nat} : ListsIn C vs css → IntsAre ys cs → ListsIn ((a, W.listOf ys.toArray n) :: C) (vs ++ [.ref a]) (css ++ [cs])
theorem ListsIn.length {C : List (Addr × Obj)} {vs : List Value} {css : List (List Int)} (a : ListsIn C vs css) : vs.length = css.length := by
  induction a with
  | nil => rfl
  | snoc _ _ ih => simp [ih]
theorem ListsIn.cls {C : List (Addr × Obj)} {vs : List Value} {css : List (List Int)} (a : ListsIn C vs css) : ∀ p ∈ C, p.2.cls = .type "list" := by
  induction a with
  | nil => intro p hp; cases hp
  | snoc _ _ ih =>
    intro p hp
    rcases List.mem_cons.mp hp with rfl | hp
    · rfl
    · exact ih p hp
theorem ListsIn.get {C : List (Addr × Obj)} {vs : List Value} {css : List (List Int)} (a : ListsIn C vs css) {h : Heap} (k : ∀ p ∈ C, h.get? p.1 = some p.2) :
    ∀ (j : Nat) (cs : List Int), css[j]? = some cs → ∃ (D : Addr) (ys : List Value) (c' : Nat), vs[j]? = some (.ref D) ∧ h.get? D = some (W.listOf ys.toArray c') ∧ IntsAre ys cs := by
  induction a with
  | nil => intro j cs e; simp at e
  | @snoc C vs css a ys cs n l hy ih =>
    intro j cs' e
    have hl := l.length
    by_cases hj : j < css.length
    · rw [List.getElem?_append_left hj] at e
      obtain ⟨D, ys', c', h1, h2, h3⟩ := ih (fun p hp => k p (List.mem_cons_of_mem _ hp)) j cs' e
      exact ⟨D, ys', c', by rw [List.getElem?_append_left (by omega)]; exact h1, h2, h3⟩
    · by_cases hj2 : j = css.length
      · subst hj2
        rw [List.getElem?_append_right (Nat.le_refl _), Nat.sub_self] at e
        simp only [List.getElem?_cons_zero, Option.some.injEq] at e
        subst e
        refine ⟨a, ys, n, ?_, k _ (List.Mem.head _), hy⟩
        rw [List.getElem?_append_right (by omega), hl, Nat.sub_self]; rfl
      · rw [List.getElem?_eq_none (by simp; omega)] at e; cases e
theorem ListsIn.chains {C : List (Addr × Obj)} {vs : List Value} {css : List (List Int)} (a : ListsIn C vs css) {h : Heap} {cl : Addr} {c : Nat} (hc : h.get? cl = some (W.listOf vs.toArray c)) (k : ∀ p ∈ C, h.get? p.1 = some p.2) : ChainsAt h cl css :=
  ⟨vs, c, hc, a.length, a.get k⟩
end Mine

namespace Mine
open PySem PySem.W PyProof.Rows PySem.Calls PyProof.Rows.LCg PyProof.Rows.LCt
set_option maxRecDepth 100000
set_option linter.unusedVariables false
local macro_rules | `(tactic| k_memK) => `(tactic| first | (exact List.Mem.head _) | (refine List.mem_append_left _ ?_; k_memK) | (refine List.mem_append_right _ ?_; k_memK) | (refine List.Mem.tail _ ?_; k_memK) | assumption)
local macro_rules | `(tactic| walk_at "subscriptTail") => `(tactic| (k_here; (with_unfolding_all refine' my_item ?k1 ?k2 ?_ ?k4; (case k1 => exact News.get (by assumption) (by k_mem)); (case k4 => with_unfolding_all rfl); (case k2 => (first | lia | omega)); k_whole)))
local macro_rules | `(tactic| walk_at "call builtin:len") => `(tactic| (k_here; (with_unfolding_all refine' my_len ?k1 ?k2 ?_; (case k1 => exact News.get (by assumption) (by k_mem)); (case k2 => (first | lia | omega)); k_whole)))
def BellsOff (H : Heap) (h : Heap) (bl : Addr) : Prop := ∀ vs c, h.get? bl = some (W.listOf vs c) → ∀ T, .ref T ∈ vs.toList → H.get? T = none

theorem exF {α : Type} {M : Model} {A : Around} {t : Sem α} {Q : α → Shared → Prop} {E : Value → Shared → Prop} {s : Shared} (h : wpAny M A t Q (fun _ _ => False) s) : wpAny M A t Q E s := wpAny_mono h (fun _ _ x => x) fun _ _ x => x.elim
theorem map_take {α β : Type} (f : α → β) {l : List α} {i : Nat} {x : α} (h : l[i]? = some x) : (l.map f).take (i + 1) = (l.map f).take i ++ [f x] := by
  rw [List.take_add_one, List.getElem?_map, h]; rfl
theorem kv_ints : ∀ S : List SL, IntsAre ((kvOf S).map fun y => Value.int y.1 y.2.1) (Keys S)
  | [] => .nil
  | s :: S => .cons _ _ (kv_ints S)
theorem News.cons' {g h : Heap} {L a : Addr} {o : Obj} {news : List (Addr × Obj)} (N : News g L h news) (h1 : h.get? a = some o) (h2 : a ≠ L) (h3 : g.get? a = none) : News g L h ((a, o) :: news) := fun p hp => by
  rcases List.mem_cons.mp hp with rfl | hp
  · exact ⟨h1, h2, h3⟩
  · exact N p hp
theorem kv_get {S : List SL} {i : Nat} {v : Value} (h : ((kvOf S).map fun y => Value.int y.1 y.2.1)[i]? = some v) : ∃ sl ∈ S, v = .int sl.k sl.tk := by
  have hm := List.mem_of_getElem? h
  obtain ⟨y, hy, rfl⟩ := List.mem_map.mp hm
  obtain ⟨sl, hs, rfl⟩ := List.mem_map.mp hy
  exact ⟨sl, hs, rfl⟩
theorem bk_key {S : List SL} {k : Int} : (bk (kvOf S) k).isSome = decide (k ∈ Keys S) := by
  rw [Bool.eq_iff_iff, decide_eq_true_iff]
  cases hb : bk (kvOf S) k with
  | none =>
    constructor
    · intro q; cases q
    · intro q; exact absurd q (keys_no (bk_kv_none hb))
  | some a =>
    obtain ⟨sl, hs, e1, _⟩ := bk_kv_some hb
    exact ⟨fun _ => List.mem_map.mpr ⟨sl, hs, e1⟩, fun _ => rfl⟩
theorem hours_len {a b e : Int} {ks : List Int} (ha : 0 ≤ a) (hb : 0 < b) : (hoursL a b e ks).length ≤ 22 := by
  have h1 := rsize22 ha hb
  have h2 : (hoursL a b e ks).length ≤ (cand a b).length := (List.takeWhile_sublist _).length_le
  have h3 : (cand a b).length = (Builtin.Range.rangeSize a 22 b).toNat := by simp [cand]
  (first | lia | omega)
theorem fr_kp {g h h' : Heap} {L : Addr} {m : Str → Option Value} {W : List Addr} (F : Fr g L h m) (k : Kp W h h') (hL : L ∉ W) (hg : ∀ a ∈ W, g.get? a = none) : Fr g L h' m := by
  obtain ⟨oL, es, ep, hL', r⟩ := F.ns
  exact ⟨⟨oL, es, ep, k _ _ hL hL', r⟩, fun b o e => k b o (fun q => by rw [hg b q] at e; cases e) (F.keep b o e), F.above⟩
theorem bells_all {bs : List (Int × Int)} (ok : BellsOk bs) : ∀ p ∈ bs, 0 ≤ p.1 ∧ p.1 ≤ 9 ∧ 0 < p.2 ∧ p.2 ≤ 6 := fun p hp => by
  obtain ⟨n, hn, rfl⟩ := List.getElem_of_mem hp
  have := ok n hn
  have ep : bs.getD n (0, 1) = bs[n] := by simp [hn]
  unfold bellA bellB at this
  rw [ep] at this
  exact this
theorem bells_at {bs : List (Int × Int)} {n : Nat} {p : Int × Int} (h : bs[n]? = some p) : p = (bellA bs n, bellB bs n) := by
  unfold bellA bellB
  rw [List.getD_eq_getElem?_getD, h]; rfl

def JCc1 (dx : Addr) (r : Addr) (L' : Addr) (ok_ : Obj) (oe : Obj) (S : List SL) (nb : Nat) (rs : List Value) (cr : Nat) (D : List (Addr × Obj)) (T : List (Addr × Obj)) (e : Int) (bs : List (Int × Int)) (i : Nat) (ys : List Value) (news : List (Addr × Obj)) : Prop := news = ((dx + 1, bookObj dx (ents (kvOf S)) nb) :: (r, W.listOf rs.toArray cr) :: (L' + 1 + 1, ok_) :: (L' + 1, oe) :: ((D ++ T) ++ tsOf S)) ∧ IntsAre ys ((keptL bs e).take i)
def JCc2 (Dk : Addr) (dx : Addr) (r : Addr) (L' : Addr) (okk : Obj) (oe : Obj) (ys : List Value) (S : List SL) (nb : Nat) (rs : List Value) (cr : Nat) (D : List (Addr × Obj)) (T : List (Addr × Obj)) (e : Int) (bs : List (Int × Int)) (i : Nat) (zs : List Value) (news : List (Addr × Obj)) : Prop := ∃ Cl, news = ((Dk, W.listOf ys.toArray ys.length) :: (dx + 1, bookObj dx (ents (kvOf S)) nb) :: (r, W.listOf rs.toArray cr) :: (L' + 1 + 1, okk) :: (L' + 1, oe) :: (((D ++ T) ++ tsOf S) ++ Cl)) ∧ ListsIn Cl zs ((chainsL bs e).take i)
def JCc3 (h13 : Heap) (vs' : List Value) (e' : Nat) (Dc : Addr) (zs : List Value) (Dk : Addr) (dx : Addr) (r : Addr) (L' : Addr) (okk : Obj) (oe : Obj) (ys : List Value) (S : List SL) (nb : Nat) (rs : List Value) (cr : Nat) (D : List (Addr × Obj)) (T : List (Addr × Obj)) (Cl : List (Addr × Obj)) (e : Int) (bs : List (Int × Int)) (i : Nat) (us : List Value) (news : List (Addr × Obj)) : Prop := news = ((h13.objs.size + 1, seqObj "list" vs'.toArray e') :: (Dc, W.listOf zs.toArray zs.length) :: (Dk, W.listOf ys.toArray ys.length) :: (dx + 1, bookObj dx (ents (kvOf S)) nb) :: (r, W.listOf rs.toArray cr) :: (L' + 1 + 1, okk) :: (L' + 1, oe) :: (((D ++ T) ++ tsOf S) ++ Cl)) ∧ IntsAre us (((List.range i).map fun j : Nat => (0 : Int) + (j : Int)).filter fun h => decide (h < e) || (keptL bs e).any (· == h))
def JLc (g : Heap) (L' : Addr) (bl : Addr) (Dc : Addr) (zs : List Value) (Dk : Addr) (dx : Addr) (r : Addr) (okk : Obj) (oe : Obj) (ys : List Value) (S : List SL) (rs : List Value) (cr : Nat) (D : List (Addr × Obj)) (T : List (Addr × Obj)) (Cl : List (Addr × Obj)) (I : Addr) (l : Addr) (i : Nat) (m : Str → Option Value) (h : Heap) : Prop := (m "bells" = some (.ref bl) ∧ m "book" = some (.ref (dx + 1)) ∧ m "chains" = some (.ref Dc)) ∧ ∃ c nb, News g L' h ((l, W.listOf ((kvOf S).map fun y => Value.int y.1 y.2.1).toArray c) :: (Dc, W.listOf zs.toArray zs.length) :: (Dk, W.listOf ys.toArray ys.length) :: (dx + 1, bookObj dx (ents (kvOf S)) nb) :: (r, W.listOf rs.toArray cr) :: (L' + 1 + 1, okk) :: (L' + 1, oe) :: (((D ++ T) ++ tsOf S) ++ Cl)) ∧ ∀ a ∈ ((l, W.listOf ((kvOf S).map fun y => Value.int y.1 y.2.1).toArray c) :: (Dc, W.listOf zs.toArray zs.length) :: (Dk, W.listOf ys.toArray ys.length) :: (dx + 1, bookObj dx (ents (kvOf S)) nb) :: (r, W.listOf rs.toArray cr) :: (L' + 1 + 1, okk) :: (L' + 1, oe) :: (((D ++ T) ++ tsOf S) ++ Cl)).map (·.1), a ≠ I
set_option maxHeartbeats 1000000 in
theorem calendar_spec {w : World} {A : Around} {s : Shared} {H : Heap} {Q : Value → Shared → Prop} (G : Gnd w H) (KH : Kp [] H s.heap) (hA : Arnd A 25) (C50 : CodeHd H 54 50)
    {bl : Addr} {bs : List (Int × Int)} {e : Int} {te : Tok} (hbs : BellsAt s.heap bl bs) (hoff : BellsOff H s.heap bl) (hn : bs.length < 60) (ok : BellsOk bs) (he : 2 ≤ e ∧ e ≤ 12)
    (h50 : s.heap.get? 50 = some (tabObj #[])) (h5H : H.get? 50 = none)
    (ret : ∀ (h' : Heap) (tk : Nat), Kp [50] s.heap h' → (∃ ps, h'.get? 50 = some (tabObj ps)) → (e = 12 → h'.get? 50 = some (tabObj #[])) → Q (.bool true) { s with heap := h', toks := tk }) :
    wpAny (model PG w) A (call (.ref 138) [.ref bl, .int e te]) Q (fun _ _ => False) s := by
  obtain ⟨vs, cc, hbl, htup⟩ := hbs
  obtain ⟨p, loose, mean, mg, mb, T0⟩ := G.T
  have X0 := G.X
  have hd0 : PySem.Challenge.rw_in0189_01.foot = PySem.Challenge.rw_in0189_01.foot := rfl
  revert X0 hd0
  k_fill
  intro X0 _
  refine' enterC (binds := [("bells", .ref bl), ("edge", .int e te)]) [(50, tabObj #[])] G.X KH T0.nolimit ?hN ?hroom ?ho ?hcd ?hbind ?hkind ?hnd ?h ?hco ?hgen ?hk
  case ho => k_is
  case hN => intro p hp; simp only [List.mem_singleton] at hp; subst hp; exact ⟨h50, h5H⟩
  case hroom => have := hA.dep; (first | lia | omega)
  case hcd => k_is
  case hbind => exact BindsTo.of_eq rfl
  case hkind => exact rfl
  case hnd => decide +kernel
  case hco => exact rfl
  case hgen => exact rfl
  case hk => exact rfl
  intro g L' h₁ tk₁ cells hg Kg F N Y hlt
  k_cells Y
  try simp only [List.cons_append, List.nil_append] at N
  try dsimp only
  have X := X0.keeps fun b o e => Kg b o (by simp) e
  have T := T0.keeps fun b o e => Kg b o (by simp) e
  clear X0 T0
  try k_fold
  rename_i ok_ oe d1 d2
  have d1 : ok_.data = .cell none := d1
  have d2 : oe.data = .cell (some (.int e te)) := d2
  have kpF : ∀ {h' : Heap} {m' : Str → Option Value}, Fr g L' h' m' → Kp [50] s.heap h' := fun F b o nb e => F.keep _ _ ((hg _ _).mpr ⟨by simpa using nb, e⟩)
  have gH : ∀ a, g.get? a = none → H.get? a = none := fun a q => by
    cases z : H.get? a with
    | none => rfl
    | some o => have := Kg _ _ (by simp) z; rw [q] at this; cases this
  have hbl5 : bl ≠ 50 := fun q => by rw [q, h50] at hbl; exact absurd (congrArg Obj.cls (Option.some.inj hbl)) (by intro z; cases z)
  have hgk : ∀ b o its c, s.heap.get? b = some o → o.data = .seq its c → g.get? b = some o := fun b o its c q1 q2 => (hg _ _).mpr ⟨(by
    simp only [List.map_cons, List.map_nil, List.mem_cons, List.not_mem_nil, or_false]
    rintro rfl
    rw [h50] at q1; cases q1; cases q2), q1⟩
  have hblg := hgk _ _ _ _ hbl rfl
  have htg : TupsAt g vs bs := htup.mono fun b o its c _ q2 q1 => hgk b o its c q1 q2
  have hvl := htup.length
  (repeat' (first | (k_unfold; (try dsimp only)) | ((with_reducible show wpAny _ _ _ _ _ _); (fail_if_success (with_reducible show wpAny _ _ (exec (Stmt.While _ _ _ _) _) _ _ _)); (fail_if_success (with_reducible show wpAny _ _ (exec (Stmt.For _ _ _ _ _) _) _ _ _)); (fail_if_success (with_reducible show wpAny _ _ (eval (Expr.ListComp _ _ _ _) _) _ _ _)); (fail_if_success (with_reducible show wpAny _ _ (exec (Stmt.Assign [_] (Expr.ListComp _ _ _ _) _) _) _ _ _)); (fail_if_success (with_reducible show wpAny _ _ (compareOp CmpOp.NotEq (Value.ref _) (Value.ref _)) _ _ _)); (fail_if_success (with_reducible show wpAny _ _ (compareOp CmpOp.Eq (Value.ref _) (Value.ref _)) _ _ _)); (fail_if_success (with_reducible show wpAny _ _ (call (Value.builtin _) [Value.ref _]) _ _ _)); (fail_if_success (with_reducible show wpAny _ _ (call (Value.type _) [Value.ref _]) _ _ _)); (first | walk1 | (dsimp only; walk1)); (try dsimp only)) | ((with_reducible show (Frag.In _ _ ∧ _)); walk1; (try dsimp only)) | ((with_reducible show ite _ _ _); walk1; (try dsimp only))))
  refine wpAny_call (call_book (X.keeps F.keep) fun h2 hdx hbk hk2 => ?_)
  have gnone : ∀ a, h₁.objs.size ≤ a → g.get? a = none := fun a ha => by
    cases z : g.get? a with
    | none => rfl
    | some o => exact absurd (Heap.lt_size (F.keep _ _ z)) (Nat.not_lt.mpr ha)
  have h5L : (50 : Nat) < L' := hlt _ (List.Mem.head _)
  have hLs : L' < h₁.objs.size := F.ns.lt
  have hL1 : L' + 1 < h₁.objs.size := Heap.lt_size (N (L' + 1, oe) (by k_memK)).1
  have hL2 : L' + 1 + 1 < h₁.objs.size := Heap.lt_size (N (L' + 1 + 1, ok_) (by k_memK)).1
  have hz50 : 50 < h₁.objs.size := Heap.lt_size (N (50, tabObj #[]) (by k_memK)).1
  have h58 : 58 < h₁.objs.size := by
    obtain ⟨⟨_, _, _, _, q, _⟩, _⟩ := cls_facts (X.keeps F.keep)
    exact Heap.lt_size q
  have F2 : Fr g L' h2 _ := F.keeps hk2
  have g5 : g.get? 50 = none := (N (50, tabObj #[]) (by k_memK)).2.2
  have L5 : 50 ≠ L' := (N (50, tabObj #[]) (by k_memK)).2.1
  have N2 : News g L' h2 [(h₁.objs.size + 1, madeBook h₁.objs.size), (h₁.objs.size, emptyDict), (L' + 1 + 1, ok_), (L' + 1, oe), (50, tabObj #[])] := by
    intro p hp
    rcases List.mem_cons.mp hp with rfl | hp
    · exact ⟨hbk, Nat.ne_of_gt (Nat.lt_succ_of_lt hLs), gnone _ (Nat.le_succ _)⟩
    · rcases List.mem_cons.mp hp with rfl | hp
      · exact ⟨hdx, Nat.ne_of_gt hLs, gnone _ (Nat.le_refl _)⟩
      · exact ⟨hk2 _ _ (N p hp).1, (N p hp).2⟩
  obtain ⟨dx, hdxe⟩ : ∃ dx : Nat, dx = h₁.objs.size := ⟨_, rfl⟩
  rw [← hdxe] at hdx hbk N2 gnone hLs hL1 hL2 hz50 h58 ⊢
  clear F N hdxe hk2
  dsimp only
  (repeat' (first | (k_unfold; (try dsimp only)) | ((with_reducible show wpAny _ _ _ _ _ _); (fail_if_success (with_reducible show wpAny _ _ (exec (Stmt.While _ _ _ _) _) _ _ _)); (fail_if_success (with_reducible show wpAny _ _ (exec (Stmt.For _ _ _ _ _) _) _ _ _)); (fail_if_success (with_reducible show wpAny _ _ (eval (Expr.ListComp _ _ _ _) _) _ _ _)); (fail_if_success (with_reducible show wpAny _ _ (exec (Stmt.Assign [_] (Expr.ListComp _ _ _ _) _) _) _ _ _)); (fail_if_success (with_reducible show wpAny _ _ (compareOp CmpOp.NotEq (Value.ref _) (Value.ref _)) _ _ _)); (fail_if_success (with_reducible show wpAny _ _ (compareOp CmpOp.Eq (Value.ref _) (Value.ref _)) _ _ _)); (fail_if_success (with_reducible show wpAny _ _ (call (Value.builtin _) [Value.ref _]) _ _ _)); (fail_if_success (with_reducible show wpAny _ _ (call (Value.type _) [Value.ref _]) _ _ _)); (first | walk1 | (dsimp only; walk1)); (try dsimp only)) | ((with_reducible show (Frag.In _ _ ∧ _)); walk1; (try dsimp only)) | ((with_reducible show ite _ _ _); walk1; (try dsimp only))))
  rename Fr _ _ _ _ => F3
  rename News _ _ _ _ => N3
  refine rung_spec (dx := dx) (nb := 0) G (fun b o hb q => F3.keep _ _ (Kg b o hb q)) (hA.less (e := 21) (by decide)).deeper C50 ⟨vs, cc, F3.keep _ _ hblg, htg.mono (Kt.of_keep F3.keep)⟩ hn (fun p hp => by have := bells_all ok p hp; (first | lia | omega)) (N3 _ (List.Mem.head _)).1 (Nat.lt_succ_of_lt h58) (N3 (dx, emptyDict) (by k_memK)).1 (N3 (50, tabObj #[]) (by k_memK)).1 (gH _ (gnone _ (Nat.le_succ _))) (gH _ (gnone _ (Nat.le_refl _))) h5H (by (first | lia | omega)) ?_
  intro h4 tk4 r rs cr S nb D T k4 hr0 hr aT hxb hall dp gd ks o1 hl9 hxr
  have hrg : g.get? r = none := by
    cases z : g.get? r with
    | none => rfl
    | some o => have := F3.keep _ _ z; rw [hr0] at this; cases this
  have hrL : r ≠ L' := fun q => by
    obtain ⟨oL, es, ep, hL, _⟩ := F3.ns
    rw [← q, hr0] at hL; cases hL
  have W3 : L' ∉ [dx + 1, dx, 50] := by
    simp only [List.mem_cons, List.not_mem_nil, or_false, not_or]
    exact ⟨Nat.ne_of_lt (Nat.lt_succ_of_lt hLs), Nat.ne_of_lt hLs, Ne.symm L5⟩
  have F4 := fr_kp F3 k4 W3 (fun a ha => by
    simp only [List.mem_cons, List.not_mem_nil, or_false] at ha
    rcases ha with rfl | rfl | rfl
    · exact gnone _ (Nat.le_succ _)
    · exact gnone _ (Nat.le_refl _)
    · exact g5)
  have N4 : News g L' h4 ((dx + 1, bookObj dx (ents (kvOf S)) nb) :: (r, W.listOf rs.toArray cr) :: (L' + 1 + 1, ok_) :: (L' + 1, oe) :: ((D ++ T) ++ tsOf S)) := by
    intro p hp
    rcases List.mem_cons.mp hp with rfl | hp
    · exact ⟨hxb, Nat.ne_of_gt (Nat.lt_succ_of_lt hLs), gnone _ (Nat.le_succ _)⟩
    rcases List.mem_cons.mp hp with rfl | hp
    · exact ⟨hr, hrL, hrg⟩
    rcases List.mem_cons.mp hp with rfl | hp
    · have n := N3 (L' + 1 + 1, ok_) (by k_memK)
      exact ⟨k4 _ _ (by simp only [List.mem_cons, List.not_mem_nil, or_false, not_or]; exact ⟨Nat.ne_of_lt (Nat.lt_succ_of_lt hL2), Nat.ne_of_lt hL2, Nat.ne_of_gt (by (first | lia | omega))⟩) n.1, n.2⟩
    rcases List.mem_cons.mp hp with rfl | hp
    · have n := N3 (L' + 1, oe) (by k_memK)
      exact ⟨k4 _ _ (by simp only [List.mem_cons, List.not_mem_nil, or_false, not_or]; exact ⟨Nat.ne_of_lt (Nat.lt_succ_of_lt hL1), Nat.ne_of_lt hL1, Nat.ne_of_gt (by (first | lia | omega))⟩) n.1, n.2⟩
    obtain ⟨q1, q2, q3, q4⟩ := hall p hp
    rcases q4 with q | q | q
    · exact ⟨q1, by rw [q]; exact Nat.ne_of_gt hLs, by rw [q]; exact gnone _ (Nat.le_refl _)⟩
    · exact ⟨q1, by rw [q]; exact L5, by rw [q]; exact g5⟩
    · refine ⟨q1, fun e => ?_, ?_⟩
      · obtain ⟨oL, es, ep, hL, _⟩ := F3.ns
        rw [← e, q] at hL; cases hL
      · cases z : g.get? p.1 with
        | none => rfl
        | some o => have := F3.keep _ _ z; rw [q] at this; cases this
  have hrc : r ≠ L' + 1 + 1 := fun q => by
    have n := (N3 (L' + 1 + 1, ok_) (by k_memK)).1
    dsimp only at n hr0
    rw [← q, hr0] at n; cases n
  have htc : ∀ p ∈ (D ++ T) ++ tsOf S, p.1 ≠ L' + 1 + 1 := fun p hp q => by
    obtain ⟨q1, q2, q3, q4⟩ := hall p hp
    rcases q4 with z | z | z
    · exact Nat.ne_of_lt hL2 (q.symm.trans z)
    · exact Nat.ne_of_gt (Nat.lt_succ_of_lt (Nat.lt_succ_of_lt h5L)) (q.symm.trans z)
    · have n := (N3 (L' + 1 + 1, ok_) (by k_memK)).1
      dsimp only at n z
      rw [← q, z] at n; cases n
  clear F3 N3
  have hoffT : ∀ (i : Nat) (T : Addr), vs[i]? = some (.ref T) → H.get? T = none := fun i T hv => hoff _ _ hbl T (by simpa using List.mem_of_getElem? hv)
  (repeat' (first | (k_unfold; (try dsimp only)) | ((with_reducible show wpAny _ _ _ _ _ _); (fail_if_success (with_reducible show wpAny _ _ (exec (Stmt.While _ _ _ _) _) _ _ _)); (fail_if_success (with_reducible show wpAny _ _ (exec (Stmt.For _ _ _ _ _) _) _ _ _)); (fail_if_success (with_reducible show wpAny _ _ (eval (Expr.ListComp _ _ _ _) _) _ _ _)); (fail_if_success (with_reducible show wpAny _ _ (exec (Stmt.Assign [_] (Expr.ListComp _ _ _ _) _) _) _ _ _)); (fail_if_success (with_reducible show wpAny _ _ (compareOp CmpOp.NotEq (Value.ref _) (Value.ref _)) _ _ _)); (fail_if_success (with_reducible show wpAny _ _ (compareOp CmpOp.Eq (Value.ref _) (Value.ref _)) _ _ _)); (fail_if_success (with_reducible show wpAny _ _ (call (Value.builtin _) [Value.ref _]) _ _ _)); (fail_if_success (with_reducible show wpAny _ _ (call (Value.type _) [Value.ref _]) _ _ _)); (first | walk1 | (dsimp only; walk1)); (try dsimp only)) | ((with_reducible show (Frag.In _ _ ∧ _)); walk1; (try dsimp only)) | ((with_reducible show ite _ _ _); walk1; (try dsimp only))))
  rename Fr _ _ _ _ => F5
  rename News _ _ _ (_ :: _ :: _ :: _ :: _) => N5
  refine wpAny_Assign_Name (LCg.ListComp_U (F₀ := F5) (by with_unfolding_all rfl) (by decide) (by rfl) (by decide) (by rfl) ?_)
  (repeat' (first | (k_unfold; (try dsimp only)) | ((with_reducible show wpAny _ _ _ _ _ _); (fail_if_success (with_reducible show wpAny _ _ (exec (Stmt.While _ _ _ _) _) _ _ _)); (fail_if_success (with_reducible show wpAny _ _ (exec (Stmt.For _ _ _ _ _) _) _ _ _)); (fail_if_success (with_reducible show wpAny _ _ (eval (Expr.ListComp _ _ _ _) _) _ _ _)); (fail_if_success (with_reducible show wpAny _ _ (exec (Stmt.Assign [_] (Expr.ListComp _ _ _ _) _) _) _ _ _)); (fail_if_success (with_reducible show wpAny _ _ (compareOp CmpOp.NotEq (Value.ref _) (Value.ref _)) _ _ _)); (fail_if_success (with_reducible show wpAny _ _ (compareOp CmpOp.Eq (Value.ref _) (Value.ref _)) _ _ _)); (fail_if_success (with_reducible show wpAny _ _ (call (Value.builtin _) [Value.ref _]) _ _ _)); (fail_if_success (with_reducible show wpAny _ _ (call (Value.type _) [Value.ref _]) _ _ _)); (first | walk1 | (dsimp only; walk1)); (try dsimp only)) | ((with_reducible show (Frag.In _ _ ∧ _)); walk1; (try dsimp only)) | ((with_reducible show ite _ _ _); walk1; (try dsimp only))))
  refine LCg.CompSrc.base (its := vs.toArray) (by exact hA.hh) F5 N5 ⟨_, hblg, rfl, _, rfl⟩ (by rw [List.size_toArray, hvl, sizeLine_eq]; (first | lia | omega)) fun g' => ?_
  refine rest_gen (JCc1 dx r L' ok_ oe S nb rs cr D T e bs) (n := vs.toArray.size) ?_ ?_ _ 0 [] _ (by (first | lia | omega)) ⟨rfl, .nil⟩
  · clear F5 N5
    rintro i ys news hi ⟨rfl, hys⟩ v I oI C oC Dk m₂ h tk E' hv hC hx F' N' off ne
    have hi2 : i < bs.length := by rw [← hvl]; simpa using hi
    obtain ⟨ab, hab⟩ : ∃ p, bs[i]? = some p := ⟨bs[i], by simp [hi2]⟩
    obtain ⟨Ti, ta, tb, nt, hvT, hT⟩ := htg.get i ab hab
    have hbi := bells_all ok ab (List.mem_of_getElem? hab)
    obtain rfl : v = .ref Ti := by
      rw [List.getElem?_toArray, hvT] at hv
      exact (Option.some.inj hv).symm
    (repeat' (first | (k_unfold; (try dsimp only)) | ((with_reducible show wpAny _ _ _ _ _ _); (fail_if_success (with_reducible show wpAny _ _ (exec (Stmt.While _ _ _ _) _) _ _ _)); (fail_if_success (with_reducible show wpAny _ _ (exec (Stmt.For _ _ _ _ _) _) _ _ _)); (fail_if_success (with_reducible show wpAny _ _ (eval (Expr.ListComp _ _ _ _) _) _ _ _)); (fail_if_success (with_reducible show wpAny _ _ (exec (Stmt.Assign [_] (Expr.ListComp _ _ _ _) _) _) _ _ _)); (fail_if_success (with_reducible show wpAny _ _ (compareOp CmpOp.NotEq (Value.ref _) (Value.ref _)) _ _ _)); (fail_if_success (with_reducible show wpAny _ _ (compareOp CmpOp.Eq (Value.ref _) (Value.ref _)) _ _ _)); (fail_if_success (with_reducible show wpAny _ _ (call (Value.builtin _) [Value.ref _]) _ _ _)); (fail_if_success (with_reducible show wpAny _ _ (call (Value.type _) [Value.ref _]) _ _ _)); (first | walk1 | (dsimp only; walk1)); (try dsimp only)) | ((with_reducible show (Frag.In _ _ ∧ _)); walk1; (try dsimp only)) | ((with_reducible show ite _ _ _); walk1; (try dsimp only))))
    refine exF (first_spec (a := ab.1) (b := ab.2) (e := e) G (fun b o hb q => F'.keep _ _ (Kg b o hb q)) (hA.less (e := 3) (by decide)).deeper (by exact F'.keep _ _ hT) (hoffT i Ti hvT) hbi.2.2.1 (by (first | lia | omega)) (fsts_ne (e := e) hbi.2.1 hbi.2.2 (by (first | lia | omega))) ?_)
    intro h' tk' t' k'
    refine ⟨h', _, _, rfl, F'.keeps (fun b o q => k' b o (by simp) q), N'.grown (fun b o q => k' b o (by simp) q), off, .inl ⟨_, hblg, rfl, _, rfl⟩, rfl, ?_⟩
    have ek : (keptL bs e).take (i + 1) = (keptL bs e).take i ++ [(fsts ab.1 ab.2 e).headD 0] := map_take _ hab
    rw [ek]
    exact hys.append (.cons _ _ .nil)
  · clear F5 N5
    rintro ys news ⟨rfl, hys⟩
    rw [List.take_of_length_le (by rw [List.size_toArray, hvl]; simp [keptL])] at hys
    intro Dk h6 tk6 F6 N6 off6
    have N6 : News g L' h6 ((Dk, W.listOf ys.toArray ys.length) :: (dx + 1, bookObj dx (ents (kvOf S)) nb) :: (r, W.listOf rs.toArray cr) :: (L' + 1 + 1, ok_) :: (L' + 1, oe) :: ((D ++ T) ++ tsOf S)) := N6
    (repeat' (first | (k_unfold; (try dsimp only)) | ((with_reducible show wpAny _ _ _ _ _ _); (fail_if_success (with_reducible show wpAny _ _ (exec (Stmt.While _ _ _ _) _) _ _ _)); (fail_if_success (with_reducible show wpAny _ _ (exec (Stmt.For _ _ _ _ _) _) _ _ _)); (fail_if_success (with_reducible show wpAny _ _ (eval (Expr.ListComp _ _ _ _) _) _ _ _)); (fail_if_success (with_reducible show wpAny _ _ (exec (Stmt.Assign [_] (Expr.ListComp _ _ _ _) _) _) _ _ _)); (fail_if_success (with_reducible show wpAny _ _ (compareOp CmpOp.NotEq (Value.ref _) (Value.ref _)) _ _ _)); (fail_if_success (with_reducible show wpAny _ _ (compareOp CmpOp.Eq (Value.ref _) (Value.ref _)) _ _ _)); (fail_if_success (with_reducible show wpAny _ _ (call (Value.builtin _) [Value.ref _]) _ _ _)); (fail_if_success (with_reducible show wpAny _ _ (call (Value.type _) [Value.ref _]) _ _ _)); (first | walk1 | (dsimp only; walk1)); (try dsimp only)) | ((with_reducible show (Frag.In _ _ ∧ _)); walk1; (try dsimp only)) | ((with_reducible show ite _ _ _); walk1; (try dsimp only))))
    have nc := N6 (L' + 1 + 1, ok_) (by k_memK)
    refine wpAny_storeName_cell (c := L' + 1 + 1) rfl (by with_unfolding_all rfl) (by with_unfolding_all rfl) ⟨ok_, nc.1, d1⟩ fun h7 hv7 hs7 => ?_
    obtain ⟨okk, hok7, dk7⟩ := hv7
    have hDkc : Dk ≠ L' + 1 + 1 := fun q => off6.2.2.1 q.symm
    have F7 := fr_chg F6 (fun b o hb q => hs7.extBut b o hb q) nc.2.1 nc.2.2
    have N7 : News g L' h7 ((Dk, W.listOf ys.toArray ys.length) :: (dx + 1, bookObj dx (ents (kvOf S)) nb) :: (r, W.listOf rs.toArray cr) :: (L' + 1 + 1, okk) :: (L' + 1, oe) :: ((D ++ T) ++ tsOf S)) := by
      intro p hp
      rcases List.mem_cons.mp hp with rfl | hp
      · have n := N6 (Dk, W.listOf ys.toArray ys.length) (by k_memK)
        exact ⟨hs7.extBut _ _ hDkc n.1, n.2⟩
      rcases List.mem_cons.mp hp with rfl | hp
      · have n := N6 (dx + 1, bookObj dx (ents (kvOf S)) nb) (by k_memK)
        exact ⟨hs7.extBut _ _ (Nat.ne_of_gt (Nat.lt_succ_of_lt hL2)) n.1, n.2⟩
      rcases List.mem_cons.mp hp with rfl | hp
      · have n := N6 (r, W.listOf rs.toArray cr) (by k_memK)
        exact ⟨hs7.extBut _ _ hrc n.1, n.2⟩
      rcases List.mem_cons.mp hp with rfl | hp
      · exact ⟨hok7, nc.2⟩
      rcases List.mem_cons.mp hp with rfl | hp
      · have n := N6 (L' + 1, oe) (by k_memK)
        exact ⟨hs7.extBut _ _ (Nat.ne_of_lt (Nat.lt_succ_self _)) n.1, n.2⟩
      have n := N6 p (by simp only [List.mem_cons]; exact .inr (.inr (.inr (.inr (.inr hp)))))
      exact ⟨hs7.extBut _ _ (htc p hp) n.1, n.2⟩
    have hDkL := (N7 _ (List.Mem.head _)).2.1
    clear F6 N6 nc hs7
    (repeat' (first | (k_unfold; (try dsimp only)) | ((with_reducible show wpAny _ _ _ _ _ _); (fail_if_success (with_reducible show wpAny _ _ (exec (Stmt.While _ _ _ _) _) _ _ _)); (fail_if_success (with_reducible show wpAny _ _ (exec (Stmt.For _ _ _ _ _) _) _ _ _)); (fail_if_success (with_reducible show wpAny _ _ (eval (Expr.ListComp _ _ _ _) _) _ _ _)); (fail_if_success (with_reducible show wpAny _ _ (exec (Stmt.Assign [_] (Expr.ListComp _ _ _ _) _) _) _ _ _)); (fail_if_success (with_reducible show wpAny _ _ (compareOp CmpOp.NotEq (Value.ref _) (Value.ref _)) _ _ _)); (fail_if_success (with_reducible show wpAny _ _ (compareOp CmpOp.Eq (Value.ref _) (Value.ref _)) _ _ _)); (fail_if_success (with_reducible show wpAny _ _ (call (Value.builtin _) [Value.ref _]) _ _ _)); (fail_if_success (with_reducible show wpAny _ _ (call (Value.type _) [Value.ref _]) _ _ _)); (first | walk1 | (dsimp only; walk1)); (try dsimp only)) | ((with_reducible show (Frag.In _ _ ∧ _)); walk1; (try dsimp only)) | ((with_reducible show ite _ _ _); walk1; (try dsimp only))))
    rename Fr _ _ _ _ => F8
    rename News _ _ _ (_ :: _ :: _ :: _ :: _ :: _) => N8
    first
      | refine LCg.Assign_ListComp_U (F₀ := F8) (by rfl) (by with_unfolding_all rfl) (by with_unfolding_all rfl) (by decide) (by rfl) (by decide) (by rfl) (by with_unfolding_all rfl) (by rfl) ?_
      | refine wpAny_Assign_Name (LCg.ListComp_U (F₀ := F8) (by with_unfolding_all rfl) (by decide) (by rfl) (by decide) (by rfl) ?_)
    (repeat' (first | (k_unfold; (try dsimp only)) | ((with_reducible show wpAny _ _ _ _ _ _); (fail_if_success (with_reducible show wpAny _ _ (exec (Stmt.While _ _ _ _) _) _ _ _)); (fail_if_success (with_reducible show wpAny _ _ (exec (Stmt.For _ _ _ _ _) _) _ _ _)); (fail_if_success (with_reducible show wpAny _ _ (eval (Expr.ListComp _ _ _ _) _) _ _ _)); (fail_if_success (with_reducible show wpAny _ _ (exec (Stmt.Assign [_] (Expr.ListComp _ _ _ _) _) _) _ _ _)); (fail_if_success (with_reducible show wpAny _ _ (compareOp CmpOp.NotEq (Value.ref _) (Value.ref _)) _ _ _)); (fail_if_success (with_reducible show wpAny _ _ (compareOp CmpOp.Eq (Value.ref _) (Value.ref _)) _ _ _)); (fail_if_success (with_reducible show wpAny _ _ (call (Value.builtin _) [Value.ref _]) _ _ _)); (fail_if_success (with_reducible show wpAny _ _ (call (Value.type _) [Value.ref _]) _ _ _)); (first | walk1 | (dsimp only; walk1)); (try dsimp only)) | ((with_reducible show (Frag.In _ _ ∧ _)); walk1; (try dsimp only)) | ((with_reducible show ite _ _ _); walk1; (try dsimp only))))
    refine LCg.CompSrc.base (its := vs.toArray) (by exact hA.hh) F8 N8 ⟨_, hblg, rfl, _, rfl⟩ (by rw [List.size_toArray, hvl, sizeLine_eq]; (first | lia | omega)) fun g'' => ?_
    refine rest_gen (JCc2 Dk dx r L' okk oe ys S nb rs cr D T e bs) (n := vs.toArray.size) ?_ ?_ _ 0 [] _ (by (first | lia | omega)) ⟨[], by rw [List.append_nil], .nil⟩
    · clear F8 N8
      rintro i zs news hi ⟨Cl, rfl, hzs⟩ v I oI C oC Dc m₂ h tk E' hv hC hx F' N' off ne
      have hi2 : i < bs.length := by rw [← hvl]; simpa using hi
      obtain ⟨ab, hab⟩ : ∃ p, bs[i]? = some p := ⟨bs[i], by simp [hi2]⟩
      obtain ⟨Ti, ta, tb, nt, hvT, hT⟩ := htg.get i ab hab
      have hbi := bells_all ok ab (List.mem_of_getElem? hab)
      obtain rfl : v = .ref Ti := by
        rw [List.getElem?_toArray, hvT] at hv
        exact (Option.some.inj hv).symm
      (repeat' (first | (k_unfold; (try dsimp only)) | ((with_reducible show wpAny _ _ _ _ _ _); (fail_if_success (with_reducible show wpAny _ _ (exec (Stmt.While _ _ _ _) _) _ _ _)); (fail_if_success (with_reducible show wpAny _ _ (exec (Stmt.For _ _ _ _ _) _) _ _ _)); (fail_if_success (with_reducible show wpAny _ _ (eval (Expr.ListComp _ _ _ _) _) _ _ _)); (fail_if_success (with_reducible show wpAny _ _ (exec (Stmt.Assign [_] (Expr.ListComp _ _ _ _) _) _) _ _ _)); (fail_if_success (with_reducible show wpAny _ _ (compareOp CmpOp.NotEq (Value.ref _) (Value.ref _)) _ _ _)); (fail_if_success (with_reducible show wpAny _ _ (compareOp CmpOp.Eq (Value.ref _) (Value.ref _)) _ _ _)); (fail_if_success (with_reducible show wpAny _ _ (call (Value.builtin _) [Value.ref _]) _ _ _)); (fail_if_success (with_reducible show wpAny _ _ (call (Value.type _) [Value.ref _]) _ _ _)); (first | walk1 | (dsimp only; walk1)); (try dsimp only)) | ((with_reducible show (Frag.In _ _ ∧ _)); walk1; (try dsimp only)) | ((with_reducible show ite _ _ _); walk1; (try dsimp only))))
      refine exF (hours_spec (a := ab.1) (b := ab.2) (e := e) G (fun b o hb q => F'.keep _ _ (Kg b o hb q)) (hA.less (e := 3) (by decide)).deeper (by exact F'.keep _ _ hT) (hoffT i Ti hvT) (by (first | lia | omega)) (by (first | lia | omega)) (by (first | lia | omega)) (by exact (N' (Dk, W.listOf ys.toArray ys.length) (by k_memK)).1) hys ?_)
      intro h' tk' Dn us cn k' hDn hDn' hus
      have keep' : ∀ b o, h.get? b = some o → h'.get? b = some o := fun b o q => k' b o (by simp) q
      have hne : ∀ p ∈ (I, oI) :: (C, oC) :: (Dc, lst zs) :: (Dk, W.listOf ys.toArray ys.length) :: (dx + 1, bookObj dx (ents (kvOf S)) nb) :: (r, W.listOf rs.toArray cr) :: (L' + 1 + 1, okk) :: (L' + 1, oe) :: (((D ++ T) ++ tsOf S) ++ Cl), Dn ≠ p.1 := fun p hp q => by
        have := (N' p hp).1
        rw [← q, hDn] at this; cases this
      have hDnL : Dn ≠ L' := fun q => by
        obtain ⟨oL, es, ep, hL, _⟩ := F'.ns
        rw [← q, hDn] at hL; cases hL
      have hDng : g.get? Dn = none := by
        cases z : g.get? Dn with
        | none => rfl
        | some o => have := F'.keep _ _ z; rw [hDn] at this; cases this
      have offm := off.mem
      refine ⟨h', _, _, rfl, F'.keeps keep', ?_, ?_, .inl ⟨_, hblg, rfl, _, rfl⟩, (Dn, W.listOf us.toArray cn) :: Cl, rfl, ?_⟩
      · intro p hp
        have hp2 : p = (Dn, W.listOf us.toArray cn) ∨ p ∈ (I, oI) :: (C, oC) :: (Dc, lst zs) :: (Dk, W.listOf ys.toArray ys.length) :: (dx + 1, bookObj dx (ents (kvOf S)) nb) :: (r, W.listOf rs.toArray cr) :: (L' + 1 + 1, okk) :: (L' + 1, oe) :: (((D ++ T) ++ tsOf S) ++ Cl) := List.mem_cons.mp (by (refine sub_at hp ?_; repeat' first | exact List.forall_mem_nil _ | (refine List.forall_mem_cons.mpr ⟨?_, ?_⟩) | (refine List.forall_mem_append.mpr ⟨?_, ?_⟩) | k_memK | (intro p hp; k_memK)))
        rcases hp2 with rfl | hp2
        · exact ⟨hDn', hDnL, hDng⟩
        · exact ⟨keep' _ _ (N' p hp2).1, (N' p hp2).2⟩
      · refine Off3.of fun p hp => ?_
        have hp2 : p = (Dn, W.listOf us.toArray cn) ∨ p ∈ (Dk, W.listOf ys.toArray ys.length) :: (dx + 1, bookObj dx (ents (kvOf S)) nb) :: (r, W.listOf rs.toArray cr) :: (L' + 1 + 1, okk) :: (L' + 1, oe) :: (((D ++ T) ++ tsOf S) ++ Cl) := List.mem_cons.mp (by (refine sub_at hp ?_; repeat' first | exact List.forall_mem_nil _ | (refine List.forall_mem_cons.mpr ⟨?_, ?_⟩) | (refine List.forall_mem_append.mpr ⟨?_, ?_⟩) | k_memK | (intro p hp; k_memK)))
        rcases hp2 with rfl | hp2
        · exact ⟨hne (I, oI) (by simp), hne (C, oC) (by simp), hne (Dc, lst zs) (by simp)⟩
        · exact offm p hp2
      · have ek : (chainsL bs e).take (i + 1) = (chainsL bs e).take i ++ [hoursL ab.1 ab.2 e (keptL bs e)] := map_take _ hab
        rw [ek]
        exact hzs.snoc hus
    · clear F8 N8
      rintro zs news ⟨Cl, rfl, hzs⟩
      rw [List.take_of_length_le (by rw [List.size_toArray, hvl]; simp [chainsL])] at hzs
      intro Dc h9 tk9 F9 N9 off9
      have N9 : News g L' h9 ((Dc, W.listOf zs.toArray zs.length) :: (Dk, W.listOf ys.toArray ys.length) :: (dx + 1, bookObj dx (ents (kvOf S)) nb) :: (r, W.listOf rs.toArray cr) :: (L' + 1 + 1, okk) :: (L' + 1, oe) :: (((D ++ T) ++ tsOf S) ++ Cl)) := N9
      (repeat' (first | (k_unfold; (try dsimp only)) | ((with_reducible show wpAny _ _ _ _ _ _); (fail_if_success (with_reducible show wpAny _ _ (exec (Stmt.While _ _ _ _) _) _ _ _)); (fail_if_success (with_reducible show wpAny _ _ (exec (Stmt.For _ _ _ _ _) _) _ _ _)); (fail_if_success (with_reducible show wpAny _ _ (eval (Expr.ListComp _ _ _ _) _) _ _ _)); (fail_if_success (with_reducible show wpAny _ _ (exec (Stmt.Assign [_] (Expr.ListComp _ _ _ _) _) _) _ _ _)); (fail_if_success (with_reducible show wpAny _ _ (compareOp CmpOp.NotEq (Value.ref _) (Value.ref _)) _ _ _)); (fail_if_success (with_reducible show wpAny _ _ (compareOp CmpOp.Eq (Value.ref _) (Value.ref _)) _ _ _)); (fail_if_success (with_reducible show wpAny _ _ (call (Value.builtin _) [Value.ref _]) _ _ _)); (fail_if_success (with_reducible show wpAny _ _ (call (Value.type _) [Value.ref _]) _ _ _)); (first | walk1 | (dsimp only; walk1)); (try dsimp only)) | ((with_reducible show (Frag.In _ _ ∧ _)); walk1; (try dsimp only)) | ((with_reducible show ite _ _ _); walk1; (try dsimp only))))
      rename Fr _ _ _ _ => F10
      rename News _ _ _ (_ :: _ :: _ :: _ :: _ :: _ :: _) => N10
      have hcl : (chainsL bs e).length = bs.length := by simp [chainsL]
      refine rings_spec (css := chainsL bs e) G (fun b o hb q => F10.keep _ _ (Kg b o hb q)) (hA.less (e := 13) (by decide)).deeper (hzs.chains (N10 _ (List.Mem.head _)).1 fun p hp => (N10 p (by k_memK)).1) (by rw [hcl]; (first | lia | omega)) ?_
      intro h11 tk11 Dr ws cw k11 hDr0 hDr tw
      have keep11 : ∀ b o, _ → h11.get? b = some o := fun b o q => k11 b o (by simp) q
      have F11 := F10.keeps keep11
      have N11 := N10.grown keep11
      clear F10 N10
      rw [← rings_law ok (by (first | lia | omega))] at tw
      refine ne_tups (N11 (r, W.listOf rs.toArray cr) (by k_memK)).1 hDr (aT.at_ fun p hp => (N11 p (by k_memK)).1) tw (by have := hA.uni; simp only [units_deeper]; (first | lia | omega)) ?_
      (repeat' (first | (k_unfold; (try dsimp only)) | ((with_reducible show wpAny _ _ _ _ _ _); (fail_if_success (with_reducible show wpAny _ _ (exec (Stmt.While _ _ _ _) _) _ _ _)); (fail_if_success (with_reducible show wpAny _ _ (exec (Stmt.For _ _ _ _ _) _) _ _ _)); (fail_if_success (with_reducible show wpAny _ _ (eval (Expr.ListComp _ _ _ _) _) _ _ _)); (fail_if_success (with_reducible show wpAny _ _ (exec (Stmt.Assign [_] (Expr.ListComp _ _ _ _) _) _) _ _ _)); (fail_if_success (with_reducible show wpAny _ _ (compareOp CmpOp.NotEq (Value.ref _) (Value.ref _)) _ _ _)); (fail_if_success (with_reducible show wpAny _ _ (compareOp CmpOp.Eq (Value.ref _) (Value.ref _)) _ _ _)); (fail_if_success (with_reducible show wpAny _ _ (call (Value.builtin _) [Value.ref _]) _ _ _)); (fail_if_success (with_reducible show wpAny _ _ (call (Value.type _) [Value.ref _]) _ _ _)); (first | walk1 | (dsimp only; walk1)); (try dsimp only)) | ((with_reducible show (Frag.In _ _ ∧ _)); walk1; (try dsimp only)) | ((with_reducible show ite _ _ _); walk1; (try dsimp only))))
      rename Fr _ _ _ _ => F12
      rename News _ _ _ (_ :: _ :: _ :: _ :: _ :: _ :: _) => N12
      have hx1 : 58 < dx + 1 := Nat.lt_succ_of_lt h58
      have hkS : (Keys S).Perm (keysL bs e) := by rw [ks]; exact keys_law ok ⟨by (first | lia | omega), by (first | lia | omega)⟩
      have hlS : S.length ≤ 22 := by
        have h1 := hkS.length_eq
        have h2 : (keysL bs e).length ≤ 22 := by
          unfold keysL
          exact Nat.le_trans (List.length_filter_le _ _) (by simp)
        have h3 : (Keys S).length = S.length := by simp [Keys]
        (first | lia | omega)
      refine book_list (l := kvOf S) (X.keeps F12.keep) (N12 (dx + 1, bookObj dx (ents (kvOf S)) nb) (by k_memK)).1 hx1 (by unfold kvOf; rw [List.length_map]; (first | lia | omega)) hA.hh ?_
      intro h13 tk13 c13 keep13 hLk
      have hLkL := fresh_ne F12
      have hLkg := fresh_none F12
      have F13 := F12.keeps keep13
      have N13 := News.cons' (N12.grown keep13) hLk hLkL hLkg
      clear F12 N12
      (repeat' (first | (k_unfold; (try dsimp only)) | ((with_reducible show wpAny _ _ _ _ _ _); (fail_if_success (with_reducible show wpAny _ _ (exec (Stmt.While _ _ _ _) _) _ _ _)); (fail_if_success (with_reducible show wpAny _ _ (exec (Stmt.For _ _ _ _ _) _) _ _ _)); (fail_if_success (with_reducible show wpAny _ _ (eval (Expr.ListComp _ _ _ _) _) _ _ _)); (fail_if_success (with_reducible show wpAny _ _ (exec (Stmt.Assign [_] (Expr.ListComp _ _ _ _) _) _) _ _ _)); (fail_if_success (with_reducible show wpAny _ _ (compareOp CmpOp.NotEq (Value.ref _) (Value.ref _)) _ _ _)); (fail_if_success (with_reducible show wpAny _ _ (compareOp CmpOp.Eq (Value.ref _) (Value.ref _)) _ _ _)); (fail_if_success (with_reducible show wpAny _ _ (call (Value.builtin _) [Value.ref _]) _ _ _)); (fail_if_success (with_reducible show wpAny _ _ (call (Value.type _) [Value.ref _]) _ _ _)); (first | walk1 | (dsimp only; walk1)); (try dsimp only)) | ((with_reducible show (Frag.In _ _ ∧ _)); walk1; (try dsimp only)) | ((with_reducible show ite _ _ _); walk1; (try dsimp only))))
      rename Fr _ _ _ _ => F14
      rename News _ _ _ (_ :: _ :: _ :: _ :: _ :: _ :: _ :: _) => N14
      refine sorted_N (vs := (kvOf S).map fun y => Value.int y.1 y.2.1) (ns := Keys S) F14 N14 ⟨_, (N14 _ (List.Mem.head _)).1, rfl, _, rfl⟩ (kv_ints S) (by unfold kvOf; rw [List.length_map, List.length_map]; (first | lia | omega)) fun h15 vs' ns' e' F15 N15 a1 a2 a3 => ?_
      obtain rfl : ns' = keysL bs e := lks_uniq (a2.trans hkS) a3 ((keysL_sorted bs e).imp fun h => Int.le_of_lt h)
      have N16 : News g L' h15 ((h13.objs.size + 1, seqObj "list" vs'.toArray e') :: (Dc, W.listOf zs.toArray zs.length) :: (Dk, W.listOf ys.toArray ys.length) :: (dx + 1, bookObj dx (ents (kvOf S)) nb) :: (r, W.listOf rs.toArray cr) :: (L' + 1 + 1, okk) :: (L' + 1, oe) :: (((D ++ T) ++ tsOf S) ++ Cl)) := fun p hp => N15 p (by
        rcases List.mem_cons.mp hp with rfl | hp
        · exact List.Mem.head _
        · exact List.Mem.tail _ (List.Mem.tail _ hp))
      clear F14 N14 N15
      (repeat' (first | (k_unfold; (try dsimp only)) | ((with_reducible show wpAny _ _ _ _ _ _); (fail_if_success (with_reducible show wpAny _ _ (exec (Stmt.While _ _ _ _) _) _ _ _)); (fail_if_success (with_reducible show wpAny _ _ (exec (Stmt.For _ _ _ _ _) _) _ _ _)); (fail_if_success (with_reducible show wpAny _ _ (eval (Expr.ListComp _ _ _ _) _) _ _ _)); (fail_if_success (with_reducible show wpAny _ _ (exec (Stmt.Assign [_] (Expr.ListComp _ _ _ _) _) _) _ _ _)); (fail_if_success (with_reducible show wpAny _ _ (compareOp CmpOp.NotEq (Value.ref _) (Value.ref _)) _ _ _)); (fail_if_success (with_reducible show wpAny _ _ (compareOp CmpOp.Eq (Value.ref _) (Value.ref _)) _ _ _)); (fail_if_success (with_reducible show wpAny _ _ (call (Value.builtin _) [Value.ref _]) _ _ _)); (fail_if_success (with_reducible show wpAny _ _ (call (Value.type _) [Value.ref _]) _ _ _)); (first | walk1 | (dsimp only; walk1)); (try dsimp only)) | ((with_reducible show (Frag.In _ _ ∧ _)); walk1; (try dsimp only)) | ((with_reducible show ite _ _ _); walk1; (try dsimp only))))
      rename Fr _ _ _ _ => F16
      rename News _ _ _ (_ :: _ :: _ :: _ :: _ :: _ :: _ :: _) => N16
      refine LCt.ListComp_T (F₀ := F16) (by with_unfolding_all rfl) (by decide) (by rfl) (by decide) (by rfl) ?_
      (repeat' (first | (k_unfold; (try dsimp only)) | ((with_reducible show wpAny _ _ _ _ _ _); (fail_if_success (with_reducible show wpAny _ _ (exec (Stmt.While _ _ _ _) _) _ _ _)); (fail_if_success (with_reducible show wpAny _ _ (exec (Stmt.For _ _ _ _ _) _) _ _ _)); (fail_if_success (with_reducible show wpAny _ _ (eval (Expr.ListComp _ _ _ _) _) _ _ _)); (fail_if_success (with_reducible show wpAny _ _ (exec (Stmt.Assign [_] (Expr.ListComp _ _ _ _) _) _) _ _ _)); (fail_if_success (with_reducible show wpAny _ _ (compareOp CmpOp.NotEq (Value.ref _) (Value.ref _)) _ _ _)); (fail_if_success (with_reducible show wpAny _ _ (compareOp CmpOp.Eq (Value.ref _) (Value.ref _)) _ _ _)); (fail_if_success (with_reducible show wpAny _ _ (call (Value.builtin _) [Value.ref _]) _ _ _)); (fail_if_success (with_reducible show wpAny _ _ (call (Value.type _) [Value.ref _]) _ _ _)); (first | walk1 | (dsimp only; walk1)); (try dsimp only)) | ((with_reducible show (Frag.In _ _ ∧ _)); walk1; (try dsimp only)) | ((with_reducible show ite _ _ _); walk1; (try dsimp only))))
      rename IsRange _ _ _ _ _ _ _ _ => hR
      rename News _ _ _ (_ :: _ :: _ :: _ :: _ :: _ :: _ :: _) => N17
      rename Fr _ _ _ _ => F17
      refine LCt.CompSrcT.range (n := 22) (by exact hA.hh) F17 N17 hR (rsmall (by (first | lia | omega)) (by (first | lia | omega))) (rsize (by (first | lia | omega))) (by decide) fun g3 => ?_
      refine restT_gen (JCc3 h13 vs' e' Dc zs Dk dx r L' okk oe ys S nb rs cr D T Cl e bs) (n := 22) ?_ ?_ 22 0 [] _ rfl ⟨rfl, .nil⟩
      · clear hR F17 N17
        rintro i us news hi ⟨rfl, hus⟩ v I oI C oC Dm m₂ h tk E' ⟨tv, rfl⟩ hC hx F' N' off ne
        (repeat' (first | (k_unfold; (try dsimp only)) | ((with_reducible show wpAny _ _ _ _ _ _); (fail_if_success (with_reducible show wpAny _ _ (exec (Stmt.While _ _ _ _) _) _ _ _)); (fail_if_success (with_reducible show wpAny _ _ (exec (Stmt.For _ _ _ _ _) _) _ _ _)); (fail_if_success (with_reducible show wpAny _ _ (eval (Expr.ListComp _ _ _ _) _) _ _ _)); (fail_if_success (with_reducible show wpAny _ _ (exec (Stmt.Assign [_] (Expr.ListComp _ _ _ _) _) _) _ _ _)); (fail_if_success (with_reducible show wpAny _ _ (compareOp CmpOp.NotEq (Value.ref _) (Value.ref _)) _ _ _)); (fail_if_success (with_reducible show wpAny _ _ (compareOp CmpOp.Eq (Value.ref _) (Value.ref _)) _ _ _)); (fail_if_success (with_reducible show wpAny _ _ (call (Value.builtin _) [Value.ref _]) _ _ _)); (fail_if_success (with_reducible show wpAny _ _ (call (Value.type _) [Value.ref _]) _ _ _)); (first | walk1 | (dsimp only; walk1)); (try dsimp only)) | ((with_reducible show (Frag.In _ _ ∧ _)); walk1; (try dsimp only)) | ((with_reducible show ite _ _ _); walk1; (try dsimp only))))
        · rename _ < _ => c1
          refine ⟨_, _, _, rfl, F', N', off, trivial, rfl, ?_⟩
          rw [filt_snoc, if_pos (by simp only [Bool.or_eq_true, decide_eq_true_iff]; exact .inl c1)]
          exact hus.append (.cons _ _ .nil)
        · rename ¬ _ < _ => c1
          rename List.any _ _ = true => c2
          refine ⟨_, _, _, rfl, F', N', off, trivial, rfl, ?_⟩
          rw [filt_snoc, if_pos (by rw [c2]; simp)]
          exact hus.append (.cons _ _ .nil)
        · rename ¬ _ < _ => c1
          rename List.any _ _ = false => c2
          refine ⟨_, _, _, rfl, F', N', off, trivial, rfl, ?_⟩
          rw [filt_snoc, if_neg (by rw [c2, Bool.or_false, decide_eq_true_iff]; exact c1), List.append_nil]
          exact hus
      · clear hR F17 N17
        rintro us news ⟨rfl, hus⟩
        have ek22 : (((List.range 22).map fun j : Nat => (0 : Int) + (j : Int)).filter fun h => decide (h < e) || (keptL bs e).any (· == h)) = keysL bs e := by
          unfold keysL
          congr 2
          funext j; (first | lia | omega)
        rw [ek22] at hus
        intro Dm h18 tk18 F18 N18 off18
        (repeat' (first | (k_unfold; (try dsimp only)) | ((with_reducible show wpAny _ _ _ _ _ _); (fail_if_success (with_reducible show wpAny _ _ (exec (Stmt.While _ _ _ _) _) _ _ _)); (fail_if_success (with_reducible show wpAny _ _ (exec (Stmt.For _ _ _ _ _) _) _ _ _)); (fail_if_success (with_reducible show wpAny _ _ (eval (Expr.ListComp _ _ _ _) _) _ _ _)); (fail_if_success (with_reducible show wpAny _ _ (exec (Stmt.Assign [_] (Expr.ListComp _ _ _ _) _) _) _ _ _)); (fail_if_success (with_reducible show wpAny _ _ (compareOp CmpOp.NotEq (Value.ref _) (Value.ref _)) _ _ _)); (fail_if_success (with_reducible show wpAny _ _ (compareOp CmpOp.Eq (Value.ref _) (Value.ref _)) _ _ _)); (fail_if_success (with_reducible show wpAny _ _ (call (Value.builtin _) [Value.ref _]) _ _ _)); (fail_if_success (with_reducible show wpAny _ _ (call (Value.type _) [Value.ref _]) _ _ _)); (first | walk1 | (dsimp only; walk1)); (try dsimp only)) | ((with_reducible show (Frag.In _ _ ∧ _)); walk1; (try dsimp only)) | ((with_reducible show ite _ _ _); walk1; (try dsimp only))))
        refine ne_intsK (vs := vs') (us := us) ⟨_, (N18 (h13.objs.size + 1, seqObj "list" vs'.toArray e') (by k_memK)).1, rfl, _, rfl⟩ a1 ⟨_, (N18 (Dm, lst us) (by k_memK)).1, rfl, _, rfl⟩ hus (by have := hA.uni; simp only [units_deeper]; (first | lia | omega)) ?_
        simp only [decide_true, Bool.not_true]
        have N19 : News g L' h18 ((Dc, W.listOf zs.toArray zs.length) :: (Dk, W.listOf ys.toArray ys.length) :: (dx + 1, bookObj dx (ents (kvOf S)) nb) :: (r, W.listOf rs.toArray cr) :: (L' + 1 + 1, okk) :: (L' + 1, oe) :: (((D ++ T) ++ tsOf S) ++ Cl)) := fun p hp => N18 p (List.Mem.tail _ (List.Mem.tail _ hp))
        clear N18 hus a1 a2 a3
        (repeat' (first | (k_unfold; (try dsimp only)) | ((with_reducible show wpAny _ _ _ _ _ _); (fail_if_success (with_reducible show wpAny _ _ (exec (Stmt.While _ _ _ _) _) _ _ _)); (fail_if_success (with_reducible show wpAny _ _ (exec (Stmt.For _ _ _ _ _) _) _ _ _)); (fail_if_success (with_reducible show wpAny _ _ (eval (Expr.ListComp _ _ _ _) _) _ _ _)); (fail_if_success (with_reducible show wpAny _ _ (exec (Stmt.Assign [_] (Expr.ListComp _ _ _ _) _) _) _ _ _)); (fail_if_success (with_reducible show wpAny _ _ (compareOp CmpOp.NotEq (Value.ref _) (Value.ref _)) _ _ _)); (fail_if_success (with_reducible show wpAny _ _ (compareOp CmpOp.Eq (Value.ref _) (Value.ref _)) _ _ _)); (fail_if_success (with_reducible show wpAny _ _ (call (Value.builtin _) [Value.ref _]) _ _ _)); (fail_if_success (with_reducible show wpAny _ _ (call (Value.type _) [Value.ref _]) _ _ _)); (first | walk1 | (dsimp only; walk1)); (try dsimp only)) | ((with_reducible show (Frag.In _ _ ∧ _)); walk1; (try dsimp only)) | ((with_reducible show ite _ _ _); walk1; (try dsimp only))))
        rename Fr _ _ _ _ => F20
        rename News _ _ _ (_ :: _ :: _ :: _ :: _ :: _ :: _) => N20
        have h40 : (40 : Int) ∉ Keys S := fun q => by
          have q1 := hkS.mem_iff.mp q
          unfold keysL at q1
          have q2 := (List.mem_filter.mp q1).1
          simp only [List.mem_map, List.mem_range] at q2
          obtain ⟨j, hj, q3⟩ := q2
          (first | lia | omega)
        have hxD : ∀ p ∈ (D ++ T) ++ tsOf S, p.1 ≠ dx + 1 := fun p hp => (hall p hp).2.1
        have hDcx : Dc ≠ dx + 1 := fun q => off9.2.1 q.symm
        have hDkx : Dk ≠ dx + 1 := fun q => off6.1 q.symm
        have hClx : ∀ p ∈ Cl, p.1 ≠ dx + 1 := fun p hp q => by
          have q1 := hzs.cls p hp
          have q2 := (N20 p (by k_memK)).1
          have q3 := (N20 (dx + 1, bookObj dx (ents (kvOf S)) nb) (by k_memK)).1
          dsimp only at q3
          rw [q, q3] at q2
          rw [← Option.some.inj q2] at q1; cases q1
        refine my_for_lit (g := g) (items := (kvOf S).map fun y => Value.int y.1 y.2.1)
          (JLc g L' bl Dc zs Dk dx r okk oe ys S rs cr D T Cl) hA.hh rfl (by with_unfolding_all rfl) ?_ ?_ ?_ ?_ ?_
        · rintro I l i m h h' ⟨a1, c, nb, N, off⟩ k
          exact ⟨a1, c, nb, fun p hp => ⟨k _ _ (N p hp).2.1 (off _ (List.mem_map_of_mem hp)) (N p hp).1, (N p hp).2⟩, off⟩
        · rintro I l i m h ⟨a1, c, nb, N, off⟩
          exact ⟨_, (N _ (List.Mem.head _)).1, rfl, _, rfl⟩
        · (repeat' (first | (k_unfold; (try dsimp only)) | ((with_reducible show wpAny _ _ _ _ _ _); (fail_if_success (with_reducible show wpAny _ _ (exec (Stmt.While _ _ _ _) _) _ _ _)); (fail_if_success (with_reducible show wpAny _ _ (exec (Stmt.For _ _ _ _ _) _) _ _ _)); (fail_if_success (with_reducible show wpAny _ _ (eval (Expr.ListComp _ _ _ _) _) _ _ _)); (fail_if_success (with_reducible show wpAny _ _ (exec (Stmt.Assign [_] (Expr.ListComp _ _ _ _) _) _) _ _ _)); (fail_if_success (with_reducible show wpAny _ _ (compareOp CmpOp.NotEq (Value.ref _) (Value.ref _)) _ _ _)); (fail_if_success (with_reducible show wpAny _ _ (compareOp CmpOp.Eq (Value.ref _) (Value.ref _)) _ _ _)); (fail_if_success (with_reducible show wpAny _ _ (call (Value.builtin _) [Value.ref _]) _ _ _)); (fail_if_success (with_reducible show wpAny _ _ (call (Value.type _) [Value.ref _]) _ _ _)); (first | walk1 | (dsimp only; walk1)); (try dsimp only)) | ((with_reducible show (Frag.In _ _ ∧ _)); walk1; (try dsimp only)) | ((with_reducible show ite _ _ _); walk1; (try dsimp only))))
          rename Fr _ _ _ _ => F21
          rename News _ _ _ (_ :: _ :: _ :: _ :: _ :: _ :: _) => N21
          refine book_list (l := kvOf S) (X.keeps F21.keep) (N21 (dx + 1, bookObj dx (ents (kvOf S)) nb) (by k_memK)).1 hx1 (by unfold kvOf; rw [List.length_map]; (first | lia | omega)) hA.hh ?_
          intro h22 tk22 c22 keep22 hLq
          have F22 := F21.keeps keep22
          have N22 := News.cons' (N21.grown keep22) hLq (fresh_ne F21) (fresh_none F21)
          clear F21 N21
          (repeat' (first | (k_unfold; (try dsimp only)) | ((with_reducible show wpAny _ _ _ _ _ _); (fail_if_success (with_reducible show wpAny _ _ (exec (Stmt.While _ _ _ _) _) _ _ _)); (fail_if_success (with_reducible show wpAny _ _ (exec (Stmt.For _ _ _ _ _) _) _ _ _)); (fail_if_success (with_reducible show wpAny _ _ (eval (Expr.ListComp _ _ _ _) _) _ _ _)); (fail_if_success (with_reducible show wpAny _ _ (exec (Stmt.Assign [_] (Expr.ListComp _ _ _ _) _) _) _ _ _)); (fail_if_success (with_reducible show wpAny _ _ (compareOp CmpOp.NotEq (Value.ref _) (Value.ref _)) _ _ _)); (fail_if_success (with_reducible show wpAny _ _ (compareOp CmpOp.Eq (Value.ref _) (Value.ref _)) _ _ _)); (fail_if_success (with_reducible show wpAny _ _ (call (Value.builtin _) [Value.ref _]) _ _ _)); (fail_if_success (with_reducible show wpAny _ _ (call (Value.type _) [Value.ref _]) _ _ _)); (first | walk1 | (dsimp only; walk1)); (try dsimp only)) | ((with_reducible show (Frag.In _ _ ∧ _)); walk1; (try dsimp only)) | ((with_reducible show ite _ _ _); walk1; (try dsimp only))))
          refine wpAny_pyIter_list (items := ((kvOf S).map fun y => Value.int y.1 y.2.1).toArray) ⟨_, (N22 _ (List.Mem.head _)).1, rfl, _, rfl⟩ ?_
          exact ⟨_, _, _, _, _, rfl, rfl, ⟨_, Heap.get?_push_size _ rfl, rfl, rfl⟩, fresh_none F22, fresh_ne F22, F22.push _, ⟨rfl, rfl, rfl⟩, c22, nb, fun p hp => ⟨Heap.get?_push_of_some _ (N22 p hp).1, (N22 p hp).2⟩, fun a ha => by
            obtain ⟨p, hp, rfl⟩ := List.mem_map.mp ha
            exact Nat.ne_of_lt (Heap.lt_size (N22 p hp).1)⟩
        · rintro i I l ro v m h tk hv ⟨⟨b1, b2, b3⟩, c, nb, NS, off⟩ hgI hIL hro hI F
          obtain ⟨sl0, hs0, rfl⟩ := kv_get hv
          have F2 : Fr g L' h _ := known4 (a := "hour") (b := "bells") (c := "book") (d := "chains") F rfl b1 b2 b3
          have N2 : News g L' h ((dx + 1, bookObj dx (ents (kvOf S)) nb) :: (((I, ro) :: (l, W.listOf ((kvOf S).map fun y => Value.int y.1 y.2.1).toArray c) :: (Dc, W.listOf zs.toArray zs.length) :: (Dk, W.listOf ys.toArray ys.length) :: (r, W.listOf rs.toArray cr) :: (L' + 1 + 1, okk) :: (L' + 1, oe) :: Cl) ++ ((D ++ T) ++ tsOf S))) := by
            intro p hp
            rcases List.mem_cons.mp hp with rfl | hp
            · exact NS _ (by k_memK)
            rcases List.mem_append.mp hp with hp | hp
            · rcases List.mem_cons.mp hp with rfl | hp
              · exact ⟨hI, hIL, hgI⟩
              · refine NS p ?_
                (refine sub_at hp ?_; repeat' first | exact List.forall_mem_nil _ | (refine List.forall_mem_cons.mpr ⟨?_, ?_⟩) | (refine List.forall_mem_append.mpr ⟨?_, ?_⟩) | k_memK | (intro p hp; k_memK))
            · refine NS p ?_
              (refine sub_at hp ?_; repeat' first | exact List.forall_mem_nil _ | (refine List.forall_mem_cons.mpr ⟨?_, ?_⟩) | (refine List.forall_mem_append.mpr ⟨?_, ?_⟩) | k_memK | (intro p hp; k_memK))
          clear F
          (repeat' (first | (k_unfold; (try dsimp only)) | ((with_reducible show wpAny _ _ _ _ _ _); (fail_if_success (with_reducible show wpAny _ _ (exec (Stmt.While _ _ _ _) _) _ _ _)); (fail_if_success (with_reducible show wpAny _ _ (exec (Stmt.For _ _ _ _ _) _) _ _ _)); (fail_if_success (with_reducible show wpAny _ _ (eval (Expr.ListComp _ _ _ _) _) _ _ _)); (fail_if_success (with_reducible show wpAny _ _ (exec (Stmt.Assign [_] (Expr.ListComp _ _ _ _) _) _) _ _ _)); (fail_if_success (with_reducible show wpAny _ _ (compareOp CmpOp.NotEq (Value.ref _) (Value.ref _)) _ _ _)); (fail_if_success (with_reducible show wpAny _ _ (compareOp CmpOp.Eq (Value.ref _) (Value.ref _)) _ _ _)); (fail_if_success (with_reducible show wpAny _ _ (call (Value.builtin _) [Value.ref _]) _ _ _)); (fail_if_success (with_reducible show wpAny _ _ (call (Value.type _) [Value.ref _]) _ _ _)); (first | walk1 | (dsimp only; walk1)); (try dsimp only)) | ((with_reducible show (Frag.In _ _ ∧ _)); walk1; (try dsimp only)) | ((with_reducible show ite _ _ _); walk1; (try dsimp only))))
          have hxb2 := (N2 _ (List.Mem.head _)).1
          dsimp only at hxb2
          have hIx : I ≠ dx + 1 := fun q => by
            rw [q, hxb2] at hI
            rw [← Option.some.inj hI] at hro; cases hro
          have hlx : l ≠ dx + 1 := fun q => by
            have q1 := (N2 (l, W.listOf ((kvOf S).map fun y => Value.int y.1 y.2.1).toArray c) (by k_memK)).1
            dsimp only at q1
            rw [q, hxb2] at q1
            have := congrArg Obj.cls (Option.some.inj q1); cases this
          have hxo : ∀ p ∈ ((I, ro) :: (l, W.listOf ((kvOf S).map fun y => Value.int y.1 y.2.1).toArray c) :: (Dc, W.listOf zs.toArray zs.length) :: (Dk, W.listOf ys.toArray ys.length) :: (r, W.listOf rs.toArray cr) :: (L' + 1 + 1, okk) :: (L' + 1, oe) :: Cl) ++ ((D ++ T) ++ tsOf S), p.1 ≠ dx + 1 := by
            intro p hp
            rcases List.mem_append.mp hp with hp | hp
            · rcases List.mem_cons.mp hp with rfl | hp
              · exact hIx
              rcases List.mem_cons.mp hp with rfl | hp
              · exact hlx
              rcases List.mem_cons.mp hp with rfl | hp
              · exact hDcx
              rcases List.mem_cons.mp hp with rfl | hp
              · exact hDkx
              rcases List.mem_cons.mp hp with rfl | hp
              · exact hxr.symm
              rcases List.mem_cons.mp hp with rfl | hp
              · exact Nat.ne_of_lt (Nat.lt_succ_of_lt hL2)
              rcases List.mem_cons.mp hp with rfl | hp
              · exact Nat.ne_of_lt (Nat.lt_succ_of_lt hL1)
              exact hClx p hp
            · exact hxD p hp
          refine sub_any (pre := ((I, ro) :: (l, W.listOf ((kvOf S).map fun y => Value.int y.1 y.2.1).toArray c) :: (Dc, W.listOf zs.toArray zs.length) :: (Dk, W.listOf ys.toArray ys.length) :: (r, W.listOf rs.toArray cr) :: (L' + 1 + 1, okk) :: (L' + 1, oe) :: Cl)) (D := D) (T := T) (S := S) (nb := nb) G Kg (hA.less (e := 5) (by decide)).deeper hx1 dp F2 N2 hxo hl9 ?_ ?_
          · intro h5 tk5 a S5 nb5 F5 N5 hcase hfz
            have hit : S5 = S ∧ ∃ sl ∈ S, sl.k = sl0.k ∧ sl.a = a := by
              rcases hcase with q | ⟨_, _, q, _⟩
              · exact q
              · exact absurd rfl (q sl0 hs0)
            obtain ⟨rfl, sl, hs, hk, rfl⟩ := hit
            have N5 : News g L' h5 ((dx + 1, bookObj dx (ents (kvOf S5)) nb5) :: (I, ro) :: (l, W.listOf ((kvOf S5).map fun y => Value.int y.1 y.2.1).toArray c) :: (Dc, W.listOf zs.toArray zs.length) :: (Dk, W.listOf ys.toArray ys.length) :: (r, W.listOf rs.toArray cr) :: (L' + 1 + 1, okk) :: (L' + 1, oe) :: (Cl ++ ((D ++ T) ++ tsOf S5))) := N5
            clear F2 N2
            (repeat' (first | (k_unfold; (try dsimp only)) | ((with_reducible show wpAny _ _ _ _ _ _); (fail_if_success (with_reducible show wpAny _ _ (exec (Stmt.While _ _ _ _) _) _ _ _)); (fail_if_success (with_reducible show wpAny _ _ (exec (Stmt.For _ _ _ _ _) _) _ _ _)); (fail_if_success (with_reducible show wpAny _ _ (eval (Expr.ListComp _ _ _ _) _) _ _ _)); (fail_if_success (with_reducible show wpAny _ _ (exec (Stmt.Assign [_] (Expr.ListComp _ _ _ _) _) _) _ _ _)); (fail_if_success (with_reducible show wpAny _ _ (compareOp CmpOp.NotEq (Value.ref _) (Value.ref _)) _ _ _)); (fail_if_success (with_reducible show wpAny _ _ (compareOp CmpOp.Eq (Value.ref _) (Value.ref _)) _ _ _)); (fail_if_success (with_reducible show wpAny _ _ (call (Value.builtin _) [Value.ref _]) _ _ _)); (fail_if_success (with_reducible show wpAny _ _ (call (Value.type _) [Value.ref _]) _ _ _)); (first | walk1 | (dsimp only; walk1)); (try dsimp only)) | ((with_reducible show (Frag.In _ _ ∧ _)); walk1; (try dsimp only)) | ((with_reducible show ite _ _ _); walk1; (try dsimp only))))
            rename Fr _ _ _ _ => F6
            rename News _ _ _ (_ :: _ :: _ :: _ :: _ :: _ :: _ :: _ :: _) => N6
            have hslm : (sl.a, W.listOf (itemsOf sl.zs) sl.c) ∈ tsOf S5 := List.mem_map.mpr ⟨sl, hs, rfl⟩
            have hzl : sl.zs.length < 64 := by
              have q1 := (gd.perm sl hs).length_eq
              rw [List.length_map] at q1
              have := mem_len bs.length (simTo e bs 12).1 sl.k
              (first | lia | omega)
            refine sorted_N (vs := sl.zs.map Prod.fst) (ns := sl.zs.map (·.2.1)) F6 N6 ⟨_, (N6 (sl.a, W.listOf (itemsOf sl.zs) sl.c) (by k_memK)).1, rfl, _, rfl⟩ (ints_of (gd.itm sl hs)) (by rw [List.length_map]; exact hzl) fun h7 vs7 ns7 e7 F7 N7 c1 c2 c3 => ?_
            obtain rfl : ns7 = mem bs.length (simTo e bs 12).1 sl.k := lks_uniq (c2.trans (gd.perm sl hs)) c3 ((mem_sorted _ _ _).imp fun h => Int.le_of_lt h)
            clear F6 N6
            (repeat' (first | (k_unfold; (try dsimp only)) | ((with_reducible show wpAny _ _ _ _ _ _); (fail_if_success (with_reducible show wpAny _ _ (exec (Stmt.While _ _ _ _) _) _ _ _)); (fail_if_success (with_reducible show wpAny _ _ (exec (Stmt.For _ _ _ _ _) _) _ _ _)); (fail_if_success (with_reducible show wpAny _ _ (eval (Expr.ListComp _ _ _ _) _) _ _ _)); (fail_if_success (with_reducible show wpAny _ _ (exec (Stmt.Assign [_] (Expr.ListComp _ _ _ _) _) _) _ _ _)); (fail_if_success (with_reducible show wpAny _ _ (compareOp CmpOp.NotEq (Value.ref _) (Value.ref _)) _ _ _)); (fail_if_success (with_reducible show wpAny _ _ (compareOp CmpOp.Eq (Value.ref _) (Value.ref _)) _ _ _)); (fail_if_success (with_reducible show wpAny _ _ (call (Value.builtin _) [Value.ref _]) _ _ _)); (fail_if_success (with_reducible show wpAny _ _ (call (Value.type _) [Value.ref _]) _ _ _)); (first | walk1 | (dsimp only; walk1)); (try dsimp only)) | ((with_reducible show (Frag.In _ _ ∧ _)); walk1; (try dsimp only)) | ((with_reducible show ite _ _ _); walk1; (try dsimp only))))
            rename Fr _ _ _ _ => F8
            rename News _ _ _ (_ :: _ :: _ :: _ :: _ :: _ :: _ :: _ :: _ :: _) => N8
            refine stands_spec (css := chainsL bs e) G (fun b o hb q => F8.keep _ _ (Kg b o hb q)) (hA.less (e := 13) (by decide)).deeper (hzs.chains (N8 (Dc, W.listOf zs.toArray zs.length) (by k_memK)).1 fun p hp => (N8 p (by k_memK)).1) (by rw [hcl]; (first | lia | omega)) (fun cs hcs => by
              obtain ⟨p, hp, rfl⟩ := List.mem_map.mp hcs
              have hbp := bells_all ok p hp
              have := hours_len (e := e) (ks := keptL bs e) hbp.1 hbp.2.2.1
              (first | lia | omega)) ?_
            intro h8 tk8 Ds vs8 c8 k8 hDs0 hDs hsi
            have keep8 : ∀ b o, _ → h8.get? b = some o := fun b o q => k8 b o (by simp) q
            have F9 := F8.keeps keep8
            have N9 := N8.grown keep8
            rw [← stands_law ok (by (first | lia | omega)), ← hk] at hsi
            clear F8 N8
            refine ne_intsK (vs := vs7) (us := vs8) ⟨_, (N9 _ (List.Mem.head _)).1, rfl, _, rfl⟩ c1 ⟨_, hDs, rfl, _, rfl⟩ hsi (by have := hA.uni; simp only [units_deeper]; (first | lia | omega)) ?_
            simp only [decide_true, Bool.not_true]
            (repeat' (first | (k_unfold; (try dsimp only)) | ((with_reducible show wpAny _ _ _ _ _ _); (fail_if_success (with_reducible show wpAny _ _ (exec (Stmt.While _ _ _ _) _) _ _ _)); (fail_if_success (with_reducible show wpAny _ _ (exec (Stmt.For _ _ _ _ _) _) _ _ _)); (fail_if_success (with_reducible show wpAny _ _ (eval (Expr.ListComp _ _ _ _) _) _ _ _)); (fail_if_success (with_reducible show wpAny _ _ (exec (Stmt.Assign [_] (Expr.ListComp _ _ _ _) _) _) _ _ _)); (fail_if_success (with_reducible show wpAny _ _ (compareOp CmpOp.NotEq (Value.ref _) (Value.ref _)) _ _ _)); (fail_if_success (with_reducible show wpAny _ _ (compareOp CmpOp.Eq (Value.ref _) (Value.ref _)) _ _ _)); (fail_if_success (with_reducible show wpAny _ _ (call (Value.builtin _) [Value.ref _]) _ _ _)); (fail_if_success (with_reducible show wpAny _ _ (call (Value.type _) [Value.ref _]) _ _ _)); (first | walk1 | (dsimp only; walk1)); (try dsimp only)) | ((with_reducible show (Frag.In _ _ ∧ _)); walk1; (try dsimp only)) | ((with_reducible show ite _ _ _); walk1; (try dsimp only))))
            refine ⟨_, _, _, rfl, (N9 (I, ro) (by k_memK)).1, F9, ⟨rfl, rfl, rfl⟩, c, nb5, fun p hp => N9 p ?_, off⟩
            (refine sub_at hp ?_; repeat' first | exact List.forall_mem_nil _ | (refine List.forall_mem_cons.mpr ⟨?_, ?_⟩) | (refine List.forall_mem_append.mpr ⟨?_, ?_⟩) | k_memK | (intro p hp; k_memK))
          · intro h5 tk5 a c5 hfz hnk
            exact absurd rfl (hnk sl0 hs0)
        · rintro I l m h tk ⟨⟨b1, b2, b3⟩, c, nb, NS, off⟩ F
          have F2 : Fr g L' h _ := known3 (a := "bells") (b := "book") (c := "chains") F b1 b2 b3
          clear F
          (repeat' (first | (k_unfold; (try dsimp only)) | ((with_reducible show wpAny _ _ _ _ _ _); (fail_if_success (with_reducible show wpAny _ _ (exec (Stmt.While _ _ _ _) _) _ _ _)); (fail_if_success (with_reducible show wpAny _ _ (exec (Stmt.For _ _ _ _ _) _) _ _ _)); (fail_if_success (with_reducible show wpAny _ _ (eval (Expr.ListComp _ _ _ _) _) _ _ _)); (fail_if_success (with_reducible show wpAny _ _ (exec (Stmt.Assign [_] (Expr.ListComp _ _ _ _) _) _) _ _ _)); (fail_if_success (with_reducible show wpAny _ _ (compareOp CmpOp.NotEq (Value.ref _) (Value.ref _)) _ _ _)); (fail_if_success (with_reducible show wpAny _ _ (compareOp CmpOp.Eq (Value.ref _) (Value.ref _)) _ _ _)); (fail_if_success (with_reducible show wpAny _ _ (call (Value.builtin _) [Value.ref _]) _ _ _)); (fail_if_success (with_reducible show wpAny _ _ (call (Value.type _) [Value.ref _]) _ _ _)); (first | walk1 | (dsimp only; walk1)); (try dsimp only)) | ((with_reducible show (Frag.In _ _ ∧ _)); walk1; (try dsimp only)) | ((with_reducible show ite _ _ _); walk1; (try dsimp only))))
          have N3 : News g L' h ((dx + 1, bookObj dx (ents (kvOf S)) nb) :: (((l, W.listOf ((kvOf S).map fun y => Value.int y.1 y.2.1).toArray c) :: (Dc, W.listOf zs.toArray zs.length) :: (Dk, W.listOf ys.toArray ys.length) :: (r, W.listOf rs.toArray cr) :: (L' + 1 + 1, okk) :: (L' + 1, oe) :: Cl) ++ ((D ++ T) ++ tsOf S))) := by
            intro p hp
            refine NS p ?_
            (refine sub_at hp ?_; repeat' first | exact List.forall_mem_nil _ | (refine List.forall_mem_cons.mpr ⟨?_, ?_⟩) | (refine List.forall_mem_append.mpr ⟨?_, ?_⟩) | k_memK | (intro p hp; k_memK))
          have hxb3 := (N3 _ (List.Mem.head _)).1
          dsimp only at hxb3
          have hlx : l ≠ dx + 1 := fun q => by
            have q1 := (N3 (l, W.listOf ((kvOf S).map fun y => Value.int y.1 y.2.1).toArray c) (by k_memK)).1
            dsimp only at q1
            rw [q, hxb3] at q1
            have := congrArg Obj.cls (Option.some.inj q1); cases this
          have hxo : ∀ p ∈ ((l, W.listOf ((kvOf S).map fun y => Value.int y.1 y.2.1).toArray c) :: (Dc, W.listOf zs.toArray zs.length) :: (Dk, W.listOf ys.toArray ys.length) :: (r, W.listOf rs.toArray cr) :: (L' + 1 + 1, okk) :: (L' + 1, oe) :: Cl) ++ ((D ++ T) ++ tsOf S), p.1 ≠ dx + 1 := by
            intro p hp
            rcases List.mem_append.mp hp with hp | hp
            · rcases List.mem_cons.mp hp with rfl | hp
              · exact hlx
              rcases List.mem_cons.mp hp with rfl | hp
              · exact hDcx
              rcases List.mem_cons.mp hp with rfl | hp
              · exact hDkx
              rcases List.mem_cons.mp hp with rfl | hp
              · exact hxr.symm
              rcases List.mem_cons.mp hp with rfl | hp
              · exact Nat.ne_of_lt (Nat.lt_succ_of_lt hL2)
              rcases List.mem_cons.mp hp with rfl | hp
              · exact Nat.ne_of_lt (Nat.lt_succ_of_lt hL1)
              exact hClx p hp
            · exact hxD p hp
          refine sub_any (pre := ((l, W.listOf ((kvOf S).map fun y => Value.int y.1 y.2.1).toArray c) :: (Dc, W.listOf zs.toArray zs.length) :: (Dk, W.listOf ys.toArray ys.length) :: (r, W.listOf rs.toArray cr) :: (L' + 1 + 1, okk) :: (L' + 1, oe) :: Cl)) (D := D) (T := T) (S := S) (nb := nb) G Kg (hA.less (e := 5) (by decide)).deeper hx1 dp F2 N3 hxo hl9 ?_ ?_
          · intro h5 tk5 a S5 nb5 F5 N5 hcase hfz
            obtain ⟨he12, tk', c', e5⟩ : e = 12 ∧ ∃ tk' c', S5 = S ++ [⟨40, tk', a, [], c'⟩] := by
              rcases hcase with ⟨_, sl, hs, hk, _⟩ | ⟨tk', c', _, e1, _⟩
              · exact absurd (List.mem_map.mpr ⟨sl, hs, hk⟩) h40
              · refine ⟨?_, tk', c', e1⟩
                rcases Int.lt_or_le e 12 with q | q
                · have q2 := hfz (by simpa using q)
                  rw [q2] at e1
                  have := congrArg List.length e1
                  simp at this
                · (first | lia | omega)
            have N5 : News g L' h5 ((dx + 1, bookObj dx (ents (kvOf S5)) nb5) :: (l, W.listOf ((kvOf S).map fun y => Value.int y.1 y.2.1).toArray c) :: (Dc, W.listOf zs.toArray zs.length) :: (Dk, W.listOf ys.toArray ys.length) :: (r, W.listOf rs.toArray cr) :: (L' + 1 + 1, okk) :: (L' + 1, oe) :: (Cl ++ ((D ++ T) ++ tsOf S5))) := N5
            clear F2 N3 NS
            (repeat' (first | (k_unfold; (try dsimp only)) | ((with_reducible show wpAny _ _ _ _ _ _); (fail_if_success (with_reducible show wpAny _ _ (exec (Stmt.While _ _ _ _) _) _ _ _)); (fail_if_success (with_reducible show wpAny _ _ (exec (Stmt.For _ _ _ _ _) _) _ _ _)); (fail_if_success (with_reducible show wpAny _ _ (eval (Expr.ListComp _ _ _ _) _) _ _ _)); (fail_if_success (with_reducible show wpAny _ _ (exec (Stmt.Assign [_] (Expr.ListComp _ _ _ _) _) _) _ _ _)); (fail_if_success (with_reducible show wpAny _ _ (compareOp CmpOp.NotEq (Value.ref _) (Value.ref _)) _ _ _)); (fail_if_success (with_reducible show wpAny _ _ (compareOp CmpOp.Eq (Value.ref _) (Value.ref _)) _ _ _)); (fail_if_success (with_reducible show wpAny _ _ (call (Value.builtin _) [Value.ref _]) _ _ _)); (fail_if_success (with_reducible show wpAny _ _ (call (Value.type _) [Value.ref _]) _ _ _)); (first | walk1 | (dsimp only; walk1)); (try dsimp only)) | ((with_reducible show (Frag.In _ _ ∧ _)); walk1; (try dsimp only)) | ((with_reducible show ite _ _ _); walk1; (try dsimp only))))
            rename Fr _ _ _ _ => F6
            rename News _ _ _ (_ :: _ :: _ :: _ :: _ :: _ :: _ :: _ :: _) => N6
            have hsa : (a, W.listOf (itemsOf []) c') ∈ tsOf S5 := by rw [e5]; simp [tsOf]
            refine eq_intsK (vs := []) (ns := []) (us := []) (ms := []) ⟨_, (N6 (a, W.listOf (itemsOf []) c') (by k_memK)).1, rfl, _, rfl⟩ .nil ⟨_, (N6 _ (List.Mem.head _)).1, rfl, _, rfl⟩ .nil (by have := hA.uni; simp only [units_deeper]; (first | lia | omega)) ?_
            simp only [decide_true]
            (repeat' (first | (k_unfold; (try dsimp only)) | ((with_reducible show wpAny _ _ _ _ _ _); (fail_if_success (with_reducible show wpAny _ _ (exec (Stmt.While _ _ _ _) _) _ _ _)); (fail_if_success (with_reducible show wpAny _ _ (exec (Stmt.For _ _ _ _ _) _) _ _ _)); (fail_if_success (with_reducible show wpAny _ _ (eval (Expr.ListComp _ _ _ _) _) _ _ _)); (fail_if_success (with_reducible show wpAny _ _ (exec (Stmt.Assign [_] (Expr.ListComp _ _ _ _) _) _) _ _ _)); (fail_if_success (with_reducible show wpAny _ _ (compareOp CmpOp.NotEq (Value.ref _) (Value.ref _)) _ _ _)); (fail_if_success (with_reducible show wpAny _ _ (compareOp CmpOp.Eq (Value.ref _) (Value.ref _)) _ _ _)); (fail_if_success (with_reducible show wpAny _ _ (call (Value.builtin _) [Value.ref _]) _ _ _)); (fail_if_success (with_reducible show wpAny _ _ (call (Value.type _) [Value.ref _]) _ _ _)); (first | walk1 | (dsimp only; walk1)); (try dsimp only)) | ((with_reducible show (Frag.In _ _ ∧ _)); walk1; (try dsimp only)) | ((with_reducible show ite _ _ _); walk1; (try dsimp only))))
            have h40' : (40 : Int) ∈ Keys S5 := by rw [e5]; simp [Keys]
            refine book_in (l := kvOf S5) (X.keeps F6.keep) (N6 (dx + 1, bookObj dx (ents (kvOf S5)) nb5) (by k_memK)).1 hx1 ?_
            rw [bk_key, decide_eq_true h40']
            (repeat' (first | (k_unfold; (try dsimp only)) | ((with_reducible show wpAny _ _ _ _ _ _); (fail_if_success (with_reducible show wpAny _ _ (exec (Stmt.While _ _ _ _) _) _ _ _)); (fail_if_success (with_reducible show wpAny _ _ (exec (Stmt.For _ _ _ _ _) _) _ _ _)); (fail_if_success (with_reducible show wpAny _ _ (eval (Expr.ListComp _ _ _ _) _) _ _ _)); (fail_if_success (with_reducible show wpAny _ _ (exec (Stmt.Assign [_] (Expr.ListComp _ _ _ _) _) _) _ _ _)); (fail_if_success (with_reducible show wpAny _ _ (compareOp CmpOp.NotEq (Value.ref _) (Value.ref _)) _ _ _)); (fail_if_success (with_reducible show wpAny _ _ (compareOp CmpOp.Eq (Value.ref _) (Value.ref _)) _ _ _)); (fail_if_success (with_reducible show wpAny _ _ (call (Value.builtin _) [Value.ref _]) _ _ _)); (fail_if_success (with_reducible show wpAny _ _ (call (Value.type _) [Value.ref _]) _ _ _)); (first | walk1 | (dsimp only; walk1)); (try dsimp only)) | ((with_reducible show (Frag.In _ _ ∧ _)); walk1; (try dsimp only)) | ((with_reducible show ite _ _ _); walk1; (try dsimp only))))
            have eb : (true == (e == 12)) = true := by rw [he12]; rfl
            rw [eb]
            have hD : D = [(dx, emptyDict), (50, tabObj #[])] := by
              have q : decide (e < 12) = false := by rw [he12]; rfl
              rw [q] at dp; simpa [DP] using dp
            have h5f := (N6 (50, tabObj #[]) (by rw [hD]; simp)).1
            exact ret _ _ (kpF F6) ⟨_, h5f⟩ fun _ => h5f
          · intro h5 tk5 a c5 hfz hnk F5 N5 hnew hga haL hoff5
            have N6 : News g L' h5 ((a, W.listOf #[] c5) :: (dx + 1, bookObj dx (ents (kvOf S)) nb) :: (l, W.listOf ((kvOf S).map fun y => Value.int y.1 y.2.1).toArray c) :: (Dc, W.listOf zs.toArray zs.length) :: (Dk, W.listOf ys.toArray ys.length) :: (r, W.listOf rs.toArray cr) :: (L' + 1 + 1, okk) :: (L' + 1, oe) :: (Cl ++ ((D ++ T) ++ tsOf S))) := News.cons' N5 hnew haL hga
            clear F2 N3 NS N5
            (repeat' (first | (k_unfold; (try dsimp only)) | ((with_reducible show wpAny _ _ _ _ _ _); (fail_if_success (with_reducible show wpAny _ _ (exec (Stmt.While _ _ _ _) _) _ _ _)); (fail_if_success (with_reducible show wpAny _ _ (exec (Stmt.For _ _ _ _ _) _) _ _ _)); (fail_if_success (with_reducible show wpAny _ _ (eval (Expr.ListComp _ _ _ _) _) _ _ _)); (fail_if_success (with_reducible show wpAny _ _ (exec (Stmt.Assign [_] (Expr.ListComp _ _ _ _) _) _) _ _ _)); (fail_if_success (with_reducible show wpAny _ _ (compareOp CmpOp.NotEq (Value.ref _) (Value.ref _)) _ _ _)); (fail_if_success (with_reducible show wpAny _ _ (compareOp CmpOp.Eq (Value.ref _) (Value.ref _)) _ _ _)); (fail_if_success (with_reducible show wpAny _ _ (call (Value.builtin _) [Value.ref _]) _ _ _)); (fail_if_success (with_reducible show wpAny _ _ (call (Value.type _) [Value.ref _]) _ _ _)); (first | walk1 | (dsimp only; walk1)); (try dsimp only)) | ((with_reducible show (Frag.In _ _ ∧ _)); walk1; (try dsimp only)) | ((with_reducible show ite _ _ _); walk1; (try dsimp only))))
            rename Fr _ _ _ _ => F7
            rename News _ _ _ (_ :: _ :: _ :: _ :: _ :: _ :: _ :: _ :: _ :: _) => N7
            refine eq_intsK (vs := []) (ns := []) (us := []) (ms := []) ⟨_, (N7 (a, W.listOf #[] c5) (by k_memK)).1, rfl, _, rfl⟩ .nil ⟨_, (N7 _ (List.Mem.head _)).1, rfl, _, rfl⟩ .nil (by have := hA.uni; simp only [units_deeper]; (first | lia | omega)) ?_
            simp only [decide_true]
            (repeat' (first | (k_unfold; (try dsimp only)) | ((with_reducible show wpAny _ _ _ _ _ _); (fail_if_success (with_reducible show wpAny _ _ (exec (Stmt.While _ _ _ _) _) _ _ _)); (fail_if_success (with_reducible show wpAny _ _ (exec (Stmt.For _ _ _ _ _) _) _ _ _)); (fail_if_success (with_reducible show wpAny _ _ (eval (Expr.ListComp _ _ _ _) _) _ _ _)); (fail_if_success (with_reducible show wpAny _ _ (exec (Stmt.Assign [_] (Expr.ListComp _ _ _ _) _) _) _ _ _)); (fail_if_success (with_reducible show wpAny _ _ (compareOp CmpOp.NotEq (Value.ref _) (Value.ref _)) _ _ _)); (fail_if_success (with_reducible show wpAny _ _ (compareOp CmpOp.Eq (Value.ref _) (Value.ref _)) _ _ _)); (fail_if_success (with_reducible show wpAny _ _ (call (Value.builtin _) [Value.ref _]) _ _ _)); (fail_if_success (with_reducible show wpAny _ _ (call (Value.type _) [Value.ref _]) _ _ _)); (first | walk1 | (dsimp only; walk1)); (try dsimp only)) | ((with_reducible show (Frag.In _ _ ∧ _)); walk1; (try dsimp only)) | ((with_reducible show ite _ _ _); walk1; (try dsimp only))))
            refine book_in (l := kvOf S) (X.keeps F7.keep) (N7 (dx + 1, bookObj dx (ents (kvOf S)) nb) (by k_memK)).1 hx1 ?_
            rw [bk_key, decide_eq_false h40]
            (repeat' (first | (k_unfold; (try dsimp only)) | ((with_reducible show wpAny _ _ _ _ _ _); (fail_if_success (with_reducible show wpAny _ _ (exec (Stmt.While _ _ _ _) _) _ _ _)); (fail_if_success (with_reducible show wpAny _ _ (exec (Stmt.For _ _ _ _ _) _) _ _ _)); (fail_if_success (with_reducible show wpAny _ _ (eval (Expr.ListComp _ _ _ _) _) _ _ _)); (fail_if_success (with_reducible show wpAny _ _ (exec (Stmt.Assign [_] (Expr.ListComp _ _ _ _) _) _) _ _ _)); (fail_if_success (with_reducible show wpAny _ _ (compareOp CmpOp.NotEq (Value.ref _) (Value.ref _)) _ _ _)); (fail_if_success (with_reducible show wpAny _ _ (compareOp CmpOp.Eq (Value.ref _) (Value.ref _)) _ _ _)); (fail_if_success (with_reducible show wpAny _ _ (call (Value.builtin _) [Value.ref _]) _ _ _)); (fail_if_success (with_reducible show wpAny _ _ (call (Value.type _) [Value.ref _]) _ _ _)); (first | walk1 | (dsimp only; walk1)); (try dsimp only)) | ((with_reducible show (Frag.In _ _ ∧ _)); walk1; (try dsimp only)) | ((with_reducible show ite _ _ _); walk1; (try dsimp only))))
            have ne12 : e ≠ 12 := fun q => by rw [q] at hfz; cases hfz
            have eb : (false == (e == 12)) = true := by
              have : (e == 12) = false := by simpa using ne12
              rw [this]; rfl
            rw [eb]
            rw [hfz] at dp
            have dp : FrzAt w H (dx + 1) dx D := by simpa [DP] using dp
            obtain ⟨fhs, ftk, f, fn, lo, fd, W', eD, _, _, _, _, ps5, hp5⟩ := dp
            have h5f := (N7 (50, tabObj ps5) (by rw [eD]; simp [hp5])).1
            exact ret _ _ (kpF F7) ⟨_, h5f⟩ fun q => absurd q ne12
end Mine

namespace Mine
open PySem PySem.W PyProof.Rows PySem.Calls
set_option maxRecDepth 100000
set_option linter.unusedVariables false

theorem ints_of_get : ∀ (vs : List Value) (ns : List Int), vs.length = ns.length → (∀ (j : Nat) (v : Value) (n : Int), vs[j]? = some v → ns[j]? = some n → ∃ t, v = .int n t) → IntsAre vs ns
  | [], [], _, _ => .nil
  | [], _ :: _, h, _ => by cases h
  | _ :: _, [], h, _ => by cases h
  | v :: vs, n :: ns, h, k => by
    obtain ⟨t, rfl⟩ := k 0 v n rfl rfl
    exact .cons _ _ (ints_of_get vs ns (by simpa using h) fun j v' n' h1 h2 => k (j + 1) v' n' (by simpa using h1) (by simpa using h2))

inductive TupsM (T : List (Addr × Obj)) : List Value → List Key → Prop
  | nil : TupsM T [] []
  | cons {a : Addr} {x y : Int} {t u : Tok} {n : Nat} {vs : List Value} {ps : List Key} : (a, tup2 x y t u n) ∈ T → TupsM T vs ps → TupsM T (.ref a :: vs) ((x, y) :: ps)
theorem TupsM.at_ {T : List (Addr × Obj)} {vs : List Value} {ps : List Key} (x : TupsM T vs ps) {h : Heap} (k : ∀ p ∈ T, h.get? p.1 = some p.2) : TupsAt h vs ps := by
  induction x with
  | nil => exact .nil
  | cons e _ ih => exact .cons (k _ e) ih
theorem TupsM.mono {T T' : List (Addr × Obj)} {vs : List Value} {ps : List Key} (x : TupsM T vs ps) (k : ∀ p ∈ T, p ∈ T') : TupsM T' vs ps := by
  induction x with
  | nil => exact .nil
  | cons e _ ih => exact .cons (k _ e) ih
theorem TupsM.length {T : List (Addr × Obj)} {vs : List Value} {ps : List Key} (x : TupsM T vs ps) : vs.length = ps.length := by
  induction x with
  | nil => rfl
  | cons _ _ ih => simp [ih]
theorem TupsM.snoc {T : List (Addr × Obj)} {vs : List Value} {ps : List Key} {a : Addr} {x y : Int} {t u : Tok} {n : Nat} (q : TupsM T vs ps) (e : (a, tup2 x y t u n) ∈ T) : TupsM T (vs ++ [.ref a]) (ps ++ [(x, y)]) := by
  induction q with
  | nil => exact .cons e .nil
  | cons e' _ ih => exact .cons e' ih
theorem TupsM.get {T : List (Addr × Obj)} {vs : List Value} {ps : List Key} (q : TupsM T vs ps) : ∀ (i : Nat) (p : Key), ps[i]? = some p → ∃ a t u n, vs[i]? = some (.ref a) ∧ (a, tup2 p.1 p.2 t u n) ∈ T := by
  induction q with
  | nil => intro i p e; simp at e
  | cons e' _ ih =>
    intro i p e
    cases i with
    | zero => simp only [List.getElem?_cons_zero, Option.some.injEq] at e; subst e; exact ⟨_, _, _, _, rfl, e'⟩
    | succ i => rw [List.getElem?_cons_succ] at e ⊢; exact ih i p e
def ItmIn (T : List (Addr × Obj)) (z : Z) : Prop := ∃ a t u n, z.1 = .ref a ∧ (a, tup2 z.2.1 z.2.2 t u n) ∈ T
theorem ItmIn.itm {T : List (Addr × Obj)} {z : Z} (x : ItmIn T z) {h : Heap} (k : ∀ p ∈ T, h.get? p.1 = some p.2) : Itm h true z := by
  obtain ⟨a, t, u, n, e, m⟩ := x
  exact ⟨a, t, u, n, e, k _ m⟩
theorem ItmIn.mono {T T' : List (Addr × Obj)} {z : Z} (x : ItmIn T z) (k : ∀ p ∈ T, p ∈ T') : ItmIn T' z := by
  obtain ⟨a, t, u, n, e, m⟩ := x
  exact ⟨a, t, u, n, e, k _ m⟩
theorem tupsM_of {T : List (Addr × Obj)} : ∀ {zs : List Z}, (∀ z ∈ zs, ItmIn T z) → TupsM T (zs.map Prod.fst) (zs.map (·.2))
  | [], _ => .nil
  | z :: zs, h => by
    obtain ⟨a, t, u, n, e, m⟩ := h z (List.Mem.head _)
    rw [List.map_cons, List.map_cons, e]
    exact .cons m (tupsM_of fun y hy => h y (List.Mem.tail _ hy))

theorem katTups_of {h : Heap} {vs : List Value} {ps : List Key} (x : TupsAt h vs ps) : ∃ fs, KatTups h vs fs ∧ fs.length = ps.length ∧ ∀ v ∈ fs, ∃ i t, v = .int i t := by
  induction x with
  | nil => exact ⟨[], .nil, rfl, fun v hv => by cases hv⟩
  | @cons T x y t u n vs ps e _ ih =>
    obtain ⟨fs, k, l, f⟩ := ih
    refine ⟨.int x t :: fs, .cons e rfl rfl rfl k, by simp [l], fun v hv => ?_⟩
    rcases List.mem_cons.mp hv with rfl | hv
    · exact ⟨_, _, rfl⟩
    · exact f v hv

section
variable {prog : Program} {w : World} {A : Around} {E : Value → Shared → Prop} {s : Shared}
theorem kat_lt_pair {a b : Addr} {x y x' y' : Int} {t u t' u' : Tok} {n k : Nat} {Q : Bool → Shared → Prop} (ha : s.heap.get? a = some (tup2 x y t u n)) (hb : s.heap.get? b = some (tup2 x' y' t' u' k))
    (h : Q (klt (x, y) (x', y')) s) : wpAny (model prog w) A (keyLt' (tuples' true) (.ref a) (.ref b)) Q E s := by
  refine kat_lt ha rfl hb rfl ?_
  show KatLex prog w A true (decide (2 < 2)) Q [(.int x t, .int x' t'), (.int y u, .int y' u')] 0 s
  refine kat_cons (wpAny_eqBool_int ?_)
  by_cases hx : x = x'
  · rw [show (x == x') = true by simpa using hx]
    refine kat_yes (kat_cons (wpAny_eqBool_int ?_))
    by_cases hy : y = y'
    · rw [show (y == y') = true by simpa using hy]
      refine kat_yes (kat_nil ?_)
      have e : klt (x, y) (x', y') = false := by rw [klt_no]; dsimp only; (first | lia | omega)
      rw [e] at h
      exact h
    · rw [show (y == y') = false by simpa using hy]
      refine kat_no (kat_one _ _ (PyProof.Rows.lt_int ?_))
      have e : klt (x, y) (x', y') = decide (y < y') := by
        rw [Bool.eq_iff_iff, klt_iff, decide_eq_true_iff]; dsimp only; (first | lia | omega)
      rw [e] at h
      exact h
  · rw [show (x == x') = false by simpa using hx]
    refine kat_no (oneLt_int ?_)
    have e : klt (x, y) (x', y') = decide (x < x') := by
      rw [Bool.eq_iff_iff, klt_iff, decide_eq_true_iff]; dsimp only; (first | lia | omega)
    rw [e] at h
    exact h

theorem getD_ref {h : Heap} {vs : List Value} {ps : List Key} (x : TupsAt h vs ps) {i : Nat} (hi : i < ps.length) : ∃ T t u n, vs.getD i .none = .ref T ∧ h.get? T = some (tup2 (ps.getD i (0, 0)).1 (ps.getD i (0, 0)).2 t u n) := by
  induction x generalizing i with
  | nil => simp at hi
  | cons e _ ih =>
    cases i with
    | zero => exact ⟨_, _, _, _, rfl, e⟩
    | succ i => exact ih (by simpa using hi)

theorem sorted_tups {h₀ : Heap} {L : Addr} {m : Str → Option Value} {news T : List (Addr × Obj)} {l : Addr} {vs : List Value} {ps : List Key} {Q : Value → Shared → Prop}
    (F : Fr h₀ L s.heap m) (N : News h₀ L s.heap news) (hT : ∀ p ∈ T, p ∈ news) (hl : s.heap.IsList l vs.toArray) (ht : TupsM T vs ps) (h2 : 2 ≤ ps.length) (h64 : ps.length < 64) (hn : ps.Nodup)
    (h : ∀ D h' c vs' ps', Fr h₀ L h' m → News h₀ L h' ((D, W.listOf (List.toArray vs') c) :: news) → TupsM T vs' ps' → ps'.Perm ps → KSt ps' → Q (.ref D) { s with heap := h' }) :
    wpAny (model prog w) A (call (.builtin "sorted") [.ref l]) Q E s := by
  have hlen := ht.length
  refine kat_sorted F N hl (by (first | lia | omega)) (by (first | lia | omega)) fun D e1 h' F' N' off => ?_
  have hTn : ∀ p ∈ T, h'.get? p.1 = some p.2 := fun p hp => (N' p (List.Mem.tail _ (hT p hp))).1
  have hta := ht.at_ hTn
  obtain ⟨fs, k1, k2, k3⟩ := katTups_of hta
  refine kat_kind (T := .type "int") k1 (by (first | lia | omega)) (fun v hv => by
    obtain ⟨i, t, rfl⟩ := k3 v hv
    exact Looks.of_pure rfl) rfl ?_
  have O : TOrd ps.length fun i j => klt (ps.getD i (0, 0)) (ps.getD j (0, 0)) := by
    refine ⟨fun i j k a b => ?_, fun i j hi hj hne a => ?_, fun i j a => ?_⟩
    · rw [klt_iff] at a b ⊢; (first | lia | omega)
    · have hd : ps.getD i (0, 0) ≠ ps.getD j (0, 0) := fun q => by
        rw [List.getD_eq_getElem?_getD, List.getD_eq_getElem?_getD, List.getElem?_eq_getElem hi, List.getElem?_eq_getElem hj] at q
        have hw := List.pairwise_iff_getElem.mp hn
        rcases Nat.lt_trichotomy i j with z | z | z
        · exact hw i j _ _ z q
        · exact hne z
        · exact hw j i _ _ z q.symm
      rw [klt_no] at a
      rw [klt_iff]
      have : (ps.getD i (0, 0)).1 ≠ (ps.getD j (0, 0)).1 ∨ (ps.getD i (0, 0)).2 ≠ (ps.getD j (0, 0)).2 := by
        by_cases q : (ps.getD i (0, 0)).1 = (ps.getD j (0, 0)).1
        · exact .inr fun q2 => hd (Prod.ext q q2)
        · exact .inl q
      (first | lia | omega)
    · rw [klt_iff] at a; rw [klt_no]; (first | lia | omega)
  have hk : (Value.type "int" != Value.type "tuple") = true := by decide
  rw [hk, hlen]
  refine sort_wp O (fun i j C hi hj hC => ?_) (by (first | lia | omega)) fun p hp u => ?_
  · obtain ⟨Ti, t, u, n, e1, g1⟩ := getD_ref hta hi
    obtain ⟨Tj, t', u', n', e2, g2⟩ := getD_ref hta hj
    unfold kas_ask
    rw [e1, e2]
    exact kat_lt_pair g1 g2 hC
  · refine KasFin.intro F' N' (.head fun q hq => Nat.ne_of_lt (off q hq)) fun h'' c F'' N'' => ?_
    have hps := hp.size
    have hpl : p.toList.length = ps.length := by simpa using hps
    refine h D h'' c _ (p.toList.map fun i => ps.getD i (0, 0)) F'' N'' ?_ ?_ ?_
    · have hall : ∀ i ∈ p.toList, i < ps.length := fun i hi => by
        have := hp.mem_iff.mp (Array.mem_toList_iff.mp hi)
        simpa using this
      revert hall
      generalize p.toList = q
      intro hall
      induction q with
      | nil => exact .nil
      | cons i q ih =>
        obtain ⟨a, t, u, n, g1, g2⟩ := ht.get i (ps.getD i (0, 0)) (by
          have := hall i (List.Mem.head _)
          rw [List.getD_eq_getElem?_getD, List.getElem?_eq_getElem this]; rfl)
        rw [List.map_cons, List.map_cons, List.getD_eq_getElem?_getD, g1]
        exact .cons g2 (ih fun j hj => hall j (List.Mem.tail _ hj))
    · have h1 : p.toList.Perm (List.range ps.length) := by simpa using hp.toList
      have h3 := h1.map fun i => ps.getD i (0, 0)
      have h4 : (List.range ps.length).map (fun i => ps.getD i (0, 0)) = ps := by
        apply List.ext_getElem
        · simp
        · intro i h1 h2
          simp at h1
          simp [h1]
      rwa [h4] at h3
    · unfold KSt
      rw [List.pairwise_map, List.pairwise_iff_getElem]
      intro i j hi hj hij
      have := u i j hij (by (first | lia | omega))
      have e1 : P_ p i = p.toList[i] := by
        have : i < p.size := by simpa using hi
        simp [this]
      have e2 : P_ p j = p.toList[j] := by
        have : j < p.size := by simpa using hj
        simp [this]
      dsimp only at this
      rw [e1, e2] at this
      exact this
end

def HeapAt (N : Nat) (τ : Nat → Int) (zs : List Z) : Prop := HeapFrom 0 zs ∧ (zs.map (·.2)).Perm (keysOf N τ)
theorem HeapAt.len {N : Nat} {τ : Nat → Int} {zs : List Z} (h : HeapAt N τ zs) : zs.length = N := by
  have := h.2.length_eq
  simpa [keysOf] using this
theorem HeapAt.top {N : Nat} {τ : Nat → Int} {zs : List Z} (h : HeapAt N τ zs) (h0 : 0 < N) : ∃ n, n < N ∧ (at_ zs 0).2 = (τ n, (n : Int)) ∧ ∀ m < N, klt (τ m, (m : Int)) (τ n, (n : Int)) = false := by
  have hl := h.len
  have hm : at_ zs 0 ∈ zs := getD_mem (by (first | lia | omega))
  obtain ⟨n, hn, e⟩ := mem_keysOf.mp (h.2.mem_iff.mp (List.mem_map_of_mem (f := (·.2)) hm))
  refine ⟨n, hn, e, fun m hm => ?_⟩
  obtain ⟨y, hy, ey⟩ := List.mem_map.mp (h.2.mem_iff.mpr (mem_keysOf.mpr ⟨m, hm, rfl⟩))
  have := root_min_mem h.1 hy
  unfold zle zlt at this
  rw [ey, e] at this
  exact this
theorem HeapAt.rep {N : Nat} {τ : Nat → Int} {zs : List Z} (h : HeapAt N τ zs) {n : Nat} (hn : n < N) (e : (at_ zs 0).2 = (τ n, (n : Int))) {z : Z} {v : Int} (hz : z.2 = (v, (n : Int))) : HeapAt N (tauUp τ n v) (suL 0 (zs.set 0 z)) := by
  have hl := h.len
  refine ⟨replace_heap (by (first | lia | omega)) h.1, ?_⟩
  have h1 := (replace_perm (z := z) (show 0 < zs.length by (first | lia | omega))).map (·.2)
  rw [List.map_cons, List.map_cons, e, hz] at h1
  have h2 := h1.trans (h.2.cons (v, (n : Int)))
  exact (List.perm_cons _).mp (h2.trans (keysOf_up hn).symm)

structure PopAt (K : List Key) (i : Nat) (yz zs : List Z) : Prop where
  heap : HeapFrom 0 zs
  perm : ((yz ++ zs).map (·.2)).Perm K
  srt : KLe (yz.map (·.2))
  low : ∀ y ∈ yz, ∀ z ∈ zs, klt z.2 y.2 = false
  len : yz.length = i
theorem PopAt.step {K : List Key} {i : Nat} {yz zs : List Z} {z : Z} (h : PopAt K i yz (zs ++ [z])) : PopAt K (i + 1) (yz ++ [popV zs z]) (popL zs z) := by
  have hp := pop_perm zs z
  have hv : popV zs z ∈ zs ++ [z] := hp.mem_iff.mp (List.Mem.head _)
  refine ⟨popL_heap h.heap, ?_, ?_, fun y hy x hx => ?_, by rw [List.length_append, h.len]; rfl⟩
  · have h1 : ((yz ++ [popV zs z]) ++ popL zs z).Perm (yz ++ (zs ++ [z])) := by
      rw [List.append_assoc]
      exact List.Perm.append_left _ hp
    exact (h1.map _).trans h.perm
  · unfold KLe
    rw [List.map_append, List.pairwise_append]
    refine ⟨h.srt, List.pairwise_singleton _ _, fun a ha b hb => ?_⟩
    obtain ⟨y, hy, rfl⟩ := List.mem_map.mp ha
    rw [List.map_cons, List.map_nil, List.mem_singleton] at hb
    rw [hb]
    exact h.low y hy _ hv
  · have hx2 : x ∈ zs ++ [z] := hp.mem_iff.mp (List.Mem.tail _ hx)
    rcases List.mem_append.mp hy with hy | hy
    · exact h.low y hy x hx2
    · rw [List.mem_singleton.mp hy]
      exact popV_min h.heap hx2
theorem PopAt.fin {K : List Key} {i : Nat} {yz zs : List Z} (h : PopAt K i yz zs) (hi : i = K.length) : (yz.map (·.2)).Perm K := by
  have h1 := h.perm.length_eq
  rw [List.length_map, List.length_append, h.len, hi] at h1
  have : zs = [] := List.eq_nil_of_length_eq_zero (by (first | lia | omega))
  have h2 := h.perm
  rw [this, List.append_nil] at h2
  exact h2
end Mine

namespace Mine
open PySem PySem.W PyProof.Rows PySem.Calls PyProof.Rows.LCg PyProof.Rows.LCt
set_option maxRecDepth 100000
set_option linter.unusedVariables false
local macro_rules | `(tactic| k_memK) => `(tactic| first | (exact List.Mem.head _) | (refine List.mem_append_left _ ?_; k_memK) | (refine List.mem_append_right _ ?_; k_memK) | (refine List.Mem.tail _ ?_; k_memK) | assumption)
theorem Off1.mem {D : Addr} : ∀ {l : List (Addr × Obj)}, Off1 D l → ∀ p ∈ l, p.1 ≠ D
  | [], _, _, h => nomatch h
  | _ :: _, x, p, h => by
    rcases List.mem_cons.mp h with rfl | h
    · exact x.1
    · exact Off1.mem x.2 p h
def TupT (T : List (Addr × Obj)) : Prop := ∀ p ∈ T, p.2.cls = .type "tuple" ∧ ∃ its n, p.2.data = .seq its n
theorem TupT.cons {T : List (Addr × Obj)} (h : TupT T) {a : Addr} {x y : Int} {t u : Tok} {n : Nat} : TupT ((a, tup2 x y t u n) :: T) := fun p hp => by
  rcases List.mem_cons.mp hp with rfl | hp
  · exact ⟨rfl, _, _, rfl⟩
  · exact h p hp
theorem TupT.off {g h : Heap} {L a : Addr} {o : Obj} {T : List (Addr × Obj)} (x : TupT T) (N : News g L h T) (ha : h.get? a = some o) (ho : o.cls ≠ .type "tuple" ∨ ∀ its n, o.data ≠ .seq its n) : ∀ p ∈ T, p.1 ≠ a := fun p hp q => by
  have h1 := (N p hp).1
  rw [q, ha] at h1
  obtain ⟨q1, its, n, q2⟩ := x p hp
  rw [← Option.some.inj h1] at q1 q2
  rcases ho with z | z
  · exact z q1
  · exact z _ _ q2

theorem keysOf_nodup (N : Nat) (τ : Nat → Int) : (keysOf N τ).Nodup := by
  unfold keysOf
  refine List.pairwise_map.mpr ((show List.Pairwise (· ≠ ·) (List.range N) from List.nodup_range).imp fun {a b} h q => h ?_)
  have := congrArg Prod.snd q
  exact Int.ofNat_inj.mp this
theorem PopAt.more {K : List Key} {i : Nat} {yz zs : List Z} (h : PopAt K i yz zs) (hi : i < K.length) : ∃ zs' z, zs = zs' ++ [z] ∧ zs'.length < K.length := by
  have h1 := h.perm.length_eq
  rw [List.length_map, List.length_append, h.len] at h1
  rcases List.eq_nil_or_concat zs with q | ⟨zs', z, q⟩
  · rw [q] at h1; simp at h1; (first | lia | omega)
  · rw [List.concat_eq_append] at q
    refine ⟨zs', z, q, ?_⟩
    rw [q] at h1; simp at h1; (first | lia | omega)

theorem rsize12 {a b : Int} (ha : 0 ≤ a) (hb : 0 < b) : 0 ≤ Builtin.Range.rangeSize a 12 b ∧ Builtin.Range.rangeSize a 12 b ≤ 12 := by
  unfold Builtin.Range.rangeSize
  rw [if_pos (by (first | lia | omega))]
  split
  · have h1 : 0 ≤ (12 - a - 1) / b := Int.ediv_nonneg (by (first | lia | omega)) (by (first | lia | omega))
    have h2 : (12 - a - 1) / b ≤ 12 - a - 1 := Int.ediv_le_self _ (by (first | lia | omega))
    (first | lia | omega)
  · (first | lia | omega)
theorem rsmall12 {a b : Int} (ha : 0 ≤ a ∧ a < 1000) (hb : 0 < b ∧ b < 1000) : Builtin.Range.small a 12 b = true := by
  have hs := rsize12 ha.1 hb.1
  unfold Builtin.Range.small Builtin.Range.rangeFitsLong
  rw [if_pos (by (first | lia | omega))]
  simp only [Bool.and_eq_true, Bool.or_eq_true, decide_eq_true_eq]
  refine ⟨⟨⟨⟨?_, ?_⟩, ?_⟩, ?_⟩, .inr ?_⟩ <;> constructor <;> (first | lia | omega)
theorem ints_r12 {a b : Int} {acc : Array Value} (h : ItemsOf (fun i v => ∃ t, v = .int (a + (i : Nat) * b) t) acc (Builtin.Range.rangeSize a 12 b).toNat) : IntsAre acc.toList (r12 a b) := by
  refine ints_of_get _ _ (by simp [r12, h.1]) fun j v n hv hn => ?_
  have hv' : acc[j]? = some v := by simpa using hv
  obtain ⟨t, rfl⟩ := h.2 j v hv'
  have hj : j < (Builtin.Range.rangeSize a 12 b).toNat := by
    have := (Array.getElem?_eq_some_iff.mp hv').1
    rw [h.1] at this; exact this
  unfold r12 at hn
  rw [List.getElem?_map, List.getElem?_range hj] at hn
  exact ⟨t, by rw [← Option.some.inj hn]⟩

def JWh (r : Addr) (Dm : Addr) (L' : Addr) (oh2 : Obj) (ob : Obj) (bs : List (Int × Int)) (n : Nat) (m : Str → Option Value) (nx : List (Addr × Obj)) : Prop := ∃ (zs rz : List Z) (TT : List (Addr × Obj)) (c1 c2 : Nat) (τ : Nat → Int), nx = ((r, W.listOf (itemsOf rz) c2) :: (Dm, W.listOf (itemsOf zs) c1) :: (L' + 1 + 1, oh2) :: (L' + 1, ob) :: TT) ∧ m "rung" = some (.ref r) ∧ TupT TT ∧ (∀ z ∈ zs, ItmIn TT z) ∧ (∀ z ∈ rz, ItmIn TT z) ∧ HeapAt bs.length τ zs ∧ HInv bs τ (rz.map (·.2)) ∧ n = msum bs.length τ
def JCh1 (L' : Addr) (oh : Obj) (ob : Obj) (bs : List (Int × Int)) (i : Nat) (ys : List Value) (news : List (Addr × Obj)) : Prop := ∃ (TT : List (Addr × Obj)) (zs : List Z), news = (L' + 1 + 1, oh) :: (L' + 1, ob) :: TT ∧ ys = zs.map Prod.fst ∧ TupT TT ∧ (∀ z ∈ zs, ItmIn TT z) ∧ zs.map (·.2) = (List.range i).map fun n => (bellA bs n, (n : Int))
def JCh2 (r : Addr) (Dm : Addr) (L' : Addr) (oh2 : Obj) (ob : Obj) (TT : List (Addr × Obj)) (τ : Nat → Int) (rz : List Z) (c2 : Nat) (bs : List (Int × Int)) (i : Nat) (ys : List Value) (news : List (Addr × Obj)) : Prop := ∃ (yz zs' : List Z) (c : Nat), news = ((r, W.listOf (itemsOf rz) c2) :: (Dm, W.listOf (itemsOf zs') c) :: (L' + 1 + 1, oh2) :: (L' + 1, ob) :: TT) ∧ ys = yz.map Prod.fst ∧ PopAt (keysOf bs.length τ) i yz zs' ∧ (∀ z ∈ zs', ItmIn TT z) ∧ (∀ z ∈ yz, ItmIn TT z)
def JCh3 (Dr : Addr) (r : Addr) (L' : Addr) (oh2 : Obj) (ob : Obj) (TT : List (Addr × Obj)) (yz : List Z) (rz : List Z) (c2 : Nat) (bs : List (Int × Int)) (i : Nat) (ys : List Value) (news : List (Addr × Obj)) : Prop := ∃ T2, news = ((Dr, W.listOf (itemsOf yz) (yz.map Prod.fst).length) :: (r, W.listOf (itemsOf rz) c2) :: (L' + 1 + 1, oh2) :: (L' + 1, ob) :: T2) ∧ (∀ p ∈ TT, p ∈ T2) ∧ TupsM T2 ys ((List.range i).map fun n => (nx (bellA bs n) (bellB bs n) 12, (n : Int)))
def JCh4 (D3 : Addr) (Dr : Addr) (r : Addr) (L' : Addr) (oh2 : Obj) (ob : Obj) (T2 : List (Addr × Obj)) (vs3 : List Value) (c3 : Nat) (yz : List Z) (rz : List Z) (c2 : Nat) (bs : List (Int × Int)) (i : Nat) (zs : List Value) (news : List (Addr × Obj)) : Prop := ∃ Cl, news = ((D3, W.listOf vs3.toArray c3) :: (Dr, W.listOf (itemsOf yz) (yz.map Prod.fst).length) :: (r, W.listOf (itemsOf rz) c2) :: (L' + 1 + 1, oh2) :: (L' + 1, ob) :: (T2 ++ Cl)) ∧ ListsIn Cl zs ((css12 bs).take i)
set_option maxHeartbeats 1000000 in
theorem heap_spec {w : World} {A : Around} {s : Shared} {H : Heap} {Q : Value → Shared → Prop} (G : Gnd w H) (KH : Kp [] H s.heap) (hA : Arnd A 25)
    {bl : Addr} {bs : List (Int × Int)} (hbs : BellsAt s.heap bl bs) (hoff : BellsOff H s.heap bl) (hn : bs.length < 60) (hn2 : 2 ≤ bs.length) (ok : BellsOk bs)
    (ret : ∀ (h' : Heap) (tk : Nat), Kp [] s.heap h' → Q (.bool true) { s with heap := h', toks := tk }) :
    wpAny (model PG w) A (call (.ref 143) [.ref bl]) Q (fun _ _ => False) s := by
  obtain ⟨vs, cc, hbl, htup⟩ := hbs
  obtain ⟨p, loose, mean, mg, mb, T0⟩ := G.T
  have X0 := G.X
  have hd0 : PySem.Challenge.rw_in0189_01.foot = PySem.Challenge.rw_in0189_01.foot := rfl
  revert X0 hd0
  k_fill
  intro X0 _
  refine' enterC (binds := [("bells", .ref bl)]) [] G.X KH T0.nolimit ?hN ?hroom ?ho ?hcd ?hbind ?hkind ?hnd ?h ?hco ?hgen ?hk
  case ho => k_is
  case hN => intro p hp; cases hp
  case hroom => have := hA.dep; (first | lia | omega)
  case hcd => k_is
  case hbind => exact BindsTo.of_eq rfl
  case hkind => exact rfl
  case hnd => decide +kernel
  case hco => exact rfl
  case hgen => exact rfl
  case hk => exact rfl
  intro g L' h₁ tk₁ cells hg Kg F N Y hlt
  k_cells Y
  try simp only [List.cons_append, List.nil_append] at N
  try dsimp only
  have X := X0.keeps fun b o e => Kg b o (by simp) e
  have T := T0.keeps fun b o e => Kg b o (by simp) e
  clear X0 T0
  try k_fold
  rename_i oh ob d1 d2
  have d1 : oh.data = .cell none := d1
  have d2 : ob.data = .cell (some (.ref bl)) := d2
  have e0 : ∀ b o, g.get? b = some o ↔ s.heap.get? b = some o := fun b o => (hg b o).trans ⟨fun e => e.2, fun e => ⟨by simp, e⟩⟩
  have kpF : ∀ {h' : Heap} {m' : Str → Option Value}, Fr g L' h' m' → Kp [] s.heap h' := fun F b o _ e => F.keep _ _ ((e0 _ _).mpr e)
  have gH : ∀ a, g.get? a = none → H.get? a = none := fun a q => by
    cases z : H.get? a with
    | none => rfl
    | some o => have := Kg _ _ (by simp) z; rw [q] at this; cases this
  have hblg := (e0 _ _).mpr hbl
  have htg : TupsAt g vs bs := htup.mono fun b o its c _ q2 q1 => (e0 _ _).mpr q1
  have hvl := htup.length
  (repeat' (first | (k_unfold; (try dsimp only)) | ((with_reducible show wpAny _ _ _ _ _ _); (fail_if_success (with_reducible show wpAny _ _ (exec (Stmt.While _ _ _ _) _) _ _ _)); (fail_if_success (with_reducible show wpAny _ _ (exec (Stmt.For _ _ _ _ _) _) _ _ _)); (fail_if_success (with_reducible show wpAny _ _ (eval (Expr.ListComp _ _ _ _) _) _ _ _)); (fail_if_success (with_reducible show wpAny _ _ (exec (Stmt.Assign [_] (Expr.ListComp _ _ _ _) _) _) _ _ _)); (fail_if_success (with_reducible show wpAny _ _ (compareOp CmpOp.NotEq (Value.ref _) (Value.ref _)) _ _ _)); (fail_if_success (with_reducible show wpAny _ _ (compareOp CmpOp.Eq (Value.ref _) (Value.ref _)) _ _ _)); (fail_if_success (with_reducible show wpAny _ _ (call (Value.builtin _) [Value.ref _]) _ _ _)); (fail_if_success (with_reducible show wpAny _ _ (call (Value.type _) [Value.ref _]) _ _ _)); (fail_if_success (with_reducible show wpAny _ _ (subscriptTail _ _ _ _) _ _ _)); (fail_if_success (with_reducible show wpAny _ _ (call (Value.builtin _) [Value.ref _, _]) _ _ _)); (first | walk1 | (dsimp only; walk1)); (try dsimp only)) | ((with_reducible show (Frag.In _ _ ∧ _)); walk1; (try dsimp only)) | ((with_reducible show ite _ _ _); walk1; (try dsimp only))))
  rename Fr _ _ _ _ => F1
  rename News _ _ _ _ => N1
  have es : vs.toArray.size = bs.length := by simp [hvl]
  have hcb : L' + 1 ≠ L' + 1 + 1 := Nat.ne_of_lt (Nat.lt_succ_self _)
  refine wpAny_Assign_Name (LCg.ListComp_U (F₀ := F1) (by with_unfolding_all rfl) (by decide) (by rfl) (by decide) (by rfl) ?_)
  (repeat' (first | (k_unfold; (try dsimp only)) | ((with_reducible show wpAny _ _ _ _ _ _); (fail_if_success (with_reducible show wpAny _ _ (exec (Stmt.While _ _ _ _) _) _ _ _)); (fail_if_success (with_reducible show wpAny _ _ (exec (Stmt.For _ _ _ _ _) _) _ _ _)); (fail_if_success (with_reducible show wpAny _ _ (eval (Expr.ListComp _ _ _ _) _) _ _ _)); (fail_if_success (with_reducible show wpAny _ _ (exec (Stmt.Assign [_] (Expr.ListComp _ _ _ _) _) _) _ _ _)); (fail_if_success (with_reducible show wpAny _ _ (compareOp CmpOp.NotEq (Value.ref _) (Value.ref _)) _ _ _)); (fail_if_success (with_reducible show wpAny _ _ (compareOp CmpOp.Eq (Value.ref _) (Value.ref _)) _ _ _)); (fail_if_success (with_reducible show wpAny _ _ (call (Value.builtin _) [Value.ref _]) _ _ _)); (fail_if_success (with_reducible show wpAny _ _ (call (Value.type _) [Value.ref _]) _ _ _)); (fail_if_success (with_reducible show wpAny _ _ (subscriptTail _ _ _ _) _ _ _)); (fail_if_success (with_reducible show wpAny _ _ (call (Value.builtin _) [Value.ref _, _]) _ _ _)); (first | walk1 | (dsimp only; walk1)); (try dsimp only)) | ((with_reducible show (Frag.In _ _ ∧ _)); walk1; (try dsimp only)) | ((with_reducible show ite _ _ _); walk1; (try dsimp only))))
  refine len_list (items := vs.toArray) ⟨_, F1.keep _ _ hblg, rfl, _, rfl⟩ (by rw [es]; (first | lia | omega)) ?_
  rw [es]
  (repeat' (first | (k_unfold; (try dsimp only)) | ((with_reducible show wpAny _ _ _ _ _ _); (fail_if_success (with_reducible show wpAny _ _ (exec (Stmt.While _ _ _ _) _) _ _ _)); (fail_if_success (with_reducible show wpAny _ _ (exec (Stmt.For _ _ _ _ _) _) _ _ _)); (fail_if_success (with_reducible show wpAny _ _ (eval (Expr.ListComp _ _ _ _) _) _ _ _)); (fail_if_success (with_reducible show wpAny _ _ (exec (Stmt.Assign [_] (Expr.ListComp _ _ _ _) _) _) _ _ _)); (fail_if_success (with_reducible show wpAny _ _ (compareOp CmpOp.NotEq (Value.ref _) (Value.ref _)) _ _ _)); (fail_if_success (with_reducible show wpAny _ _ (compareOp CmpOp.Eq (Value.ref _) (Value.ref _)) _ _ _)); (fail_if_success (with_reducible show wpAny _ _ (call (Value.builtin _) [Value.ref _]) _ _ _)); (fail_if_success (with_reducible show wpAny _ _ (call (Value.type _) [Value.ref _]) _ _ _)); (fail_if_success (with_reducible show wpAny _ _ (subscriptTail _ _ _ _) _ _ _)); (fail_if_success (with_reducible show wpAny _ _ (call (Value.builtin _) [Value.ref _, _]) _ _ _)); (first | walk1 | (dsimp only; walk1)); (try dsimp only)) | ((with_reducible show (Frag.In _ _ ∧ _)); walk1; (try dsimp only)) | ((with_reducible show ite _ _ _); walk1; (try dsimp only))))
  rename IsRange _ _ _ _ _ _ _ _ => hR
  rename News _ _ _ _ => N2
  rename Fr _ _ _ _ => F2
  refine LCg.CompSrc.range (n := bs.length) (by exact hA.hh) F2 N2 hR (rsmall (by (first | lia | omega)) (by (first | lia | omega))) (rsize (by (first | lia | omega))) (by rw [sizeLine_eq]; (first | lia | omega)) fun g' => ?_
  refine rest_gen (JCh1 L' oh ob bs) (n := bs.length) ?_ ?_ bs.length 0 [] _ (by (first | lia | omega)) ⟨[], [], rfl, rfl, (fun p hp => by cases hp), (fun z hz => by cases hz), rfl⟩
  · clear hR F2 N2
    rintro i ys news hi ⟨TT, zs, rfl, rfl, hTT, hzs, hks⟩ v I oI C oC Dm m₂ h tk E' ⟨tv, rfl⟩ hC hx F' N' off ne
    obtain ⟨ab, hab⟩ : ∃ p, bs[i]? = some p := ⟨bs[i], by simp [hi]⟩
    obtain ⟨Ti, ta, tb, nt, hvT, hT⟩ := htg.get i ab hab
    have hvT2 : vs[((0 : Int) + (i : Int)).toNat]? = some (.ref Ti) := by rw [show ((0 : Int) + (i : Int)).toNat = i by (first | lia | omega)]; exact hvT
    (repeat' (first | (k_unfold; (try dsimp only)) | ((with_reducible show wpAny _ _ _ _ _ _); (fail_if_success (with_reducible show wpAny _ _ (exec (Stmt.While _ _ _ _) _) _ _ _)); (fail_if_success (with_reducible show wpAny _ _ (exec (Stmt.For _ _ _ _ _) _) _ _ _)); (fail_if_success (with_reducible show wpAny _ _ (eval (Expr.ListComp _ _ _ _) _) _ _ _)); (fail_if_success (with_reducible show wpAny _ _ (exec (Stmt.Assign [_] (Expr.ListComp _ _ _ _) _) _) _ _ _)); (fail_if_success (with_reducible show wpAny _ _ (compareOp CmpOp.NotEq (Value.ref _) (Value.ref _)) _ _ _)); (fail_if_success (with_reducible show wpAny _ _ (compareOp CmpOp.Eq (Value.ref _) (Value.ref _)) _ _ _)); (fail_if_success (with_reducible show wpAny _ _ (call (Value.builtin _) [Value.ref _]) _ _ _)); (fail_if_success (with_reducible show wpAny _ _ (call (Value.type _) [Value.ref _]) _ _ _)); (fail_if_success (with_reducible show wpAny _ _ (subscriptTail _ _ _ _) _ _ _)); (fail_if_success (with_reducible show wpAny _ _ (call (Value.builtin _) [Value.ref _, _]) _ _ _)); (first | walk1 | (dsimp only; walk1)); (try dsimp only)) | ((with_reducible show (Frag.In _ _ ∧ _)); walk1; (try dsimp only)) | ((with_reducible show ite _ _ _); walk1; (try dsimp only))))
    refine bell_item (F'.keep _ _ hblg) (by (first | lia | omega)) hvT2 ?_
    (repeat' (first | (k_unfold; (try dsimp only)) | ((with_reducible show wpAny _ _ _ _ _ _); (fail_if_success (with_reducible show wpAny _ _ (exec (Stmt.While _ _ _ _) _) _ _ _)); (fail_if_success (with_reducible show wpAny _ _ (exec (Stmt.For _ _ _ _ _) _) _ _ _)); (fail_if_success (with_reducible show wpAny _ _ (eval (Expr.ListComp _ _ _ _) _) _ _ _)); (fail_if_success (with_reducible show wpAny _ _ (exec (Stmt.Assign [_] (Expr.ListComp _ _ _ _) _) _) _ _ _)); (fail_if_success (with_reducible show wpAny _ _ (compareOp CmpOp.NotEq (Value.ref _) (Value.ref _)) _ _ _)); (fail_if_success (with_reducible show wpAny _ _ (compareOp CmpOp.Eq (Value.ref _) (Value.ref _)) _ _ _)); (fail_if_success (with_reducible show wpAny _ _ (call (Value.builtin _) [Value.ref _]) _ _ _)); (fail_if_success (with_reducible show wpAny _ _ (call (Value.type _) [Value.ref _]) _ _ _)); (fail_if_success (with_reducible show wpAny _ _ (subscriptTail _ _ _ _) _ _ _)); (fail_if_success (with_reducible show wpAny _ _ (call (Value.builtin _) [Value.ref _, _]) _ _ _)); (first | walk1 | (dsimp only; walk1)); (try dsimp only)) | ((with_reducible show (Frag.In _ _ ∧ _)); walk1; (try dsimp only)) | ((with_reducible show ite _ _ _); walk1; (try dsimp only))))
    refine tup_item0 (F'.keep _ _ hT) ?_
    (repeat' (first | (k_unfold; (try dsimp only)) | ((with_reducible show wpAny _ _ _ _ _ _); (fail_if_success (with_reducible show wpAny _ _ (exec (Stmt.While _ _ _ _) _) _ _ _)); (fail_if_success (with_reducible show wpAny _ _ (exec (Stmt.For _ _ _ _ _) _) _ _ _)); (fail_if_success (with_reducible show wpAny _ _ (eval (Expr.ListComp _ _ _ _) _) _ _ _)); (fail_if_success (with_reducible show wpAny _ _ (exec (Stmt.Assign [_] (Expr.ListComp _ _ _ _) _) _) _ _ _)); (fail_if_success (with_reducible show wpAny _ _ (compareOp CmpOp.NotEq (Value.ref _) (Value.ref _)) _ _ _)); (fail_if_success (with_reducible show wpAny _ _ (compareOp CmpOp.Eq (Value.ref _) (Value.ref _)) _ _ _)); (fail_if_success (with_reducible show wpAny _ _ (call (Value.builtin _) [Value.ref _]) _ _ _)); (fail_if_success (with_reducible show wpAny _ _ (call (Value.type _) [Value.ref _]) _ _ _)); (fail_if_success (with_reducible show wpAny _ _ (subscriptTail _ _ _ _) _ _ _)); (fail_if_success (with_reducible show wpAny _ _ (call (Value.builtin _) [Value.ref _, _]) _ _ _)); (first | walk1 | (dsimp only; walk1)); (try dsimp only)) | ((with_reducible show (Frag.In _ _ ∧ _)); walk1; (try dsimp only)) | ((with_reducible show ite _ _ _); walk1; (try dsimp only))))
    rename_i Dq hq F3 N3 l1
    refine ⟨hq, _, (L' + 1 + 1, oh) :: (L' + 1, ob) :: (Dq, tup2 ab.1 ((0 : Int) + (i : Int)) ta tv 0) :: TT, rfl, F3, ?_, ⟨off.1, off.2.1, ⟨Nat.ne_of_gt l1.1, Nat.ne_of_gt l1.2.1, Nat.ne_of_gt l1.2.2.1⟩, off.2.2⟩, trivial, (Dq, tup2 ab.1 ((0 : Int) + (i : Int)) ta tv 0) :: TT, zs ++ [(.ref Dq, (ab.1, (0 : Int) + (i : Int)))], rfl, by simp, hTT.cons, ?_, ?_⟩
    · intro p hp
      refine N3 p ?_
      (refine sub_at hp ?_; repeat' first | exact List.forall_mem_nil _ | (refine List.forall_mem_cons.mpr ⟨?_, ?_⟩) | (refine List.forall_mem_append.mpr ⟨?_, ?_⟩) | k_memK | (intro p hp; k_memK))
    · intro z hz
      rcases List.mem_append.mp hz with hz | hz
      · exact (hzs z hz).mono fun p hp => List.Mem.tail _ hp
      · rw [List.mem_singleton.mp hz]
        exact ⟨Dq, ta, tv, 0, rfl, List.Mem.head _⟩
    · have eA : ab.1 = bellA bs i := by rw [bells_at hab]
      rw [List.map_append, hks, List.range_succ, List.map_append, List.map_cons, List.map_nil, List.map_cons, List.map_nil, eA, Int.zero_add]
  · clear hR F2 N2
    rintro ys news ⟨TT, zs, rfl, rfl, hTT, hzs, hks⟩
    intro Dm h3 tk3 F3 N3 off3
    have N3 : News g L' h3 ((Dm, W.listOf (itemsOf zs) (zs.map Prod.fst).length) :: (L' + 1 + 1, oh) :: (L' + 1, ob) :: TT) := N3
    (repeat' (first | (k_unfold; (try dsimp only)) | ((with_reducible show wpAny _ _ _ _ _ _); (fail_if_success (with_reducible show wpAny _ _ (exec (Stmt.While _ _ _ _) _) _ _ _)); (fail_if_success (with_reducible show wpAny _ _ (exec (Stmt.For _ _ _ _ _) _) _ _ _)); (fail_if_success (with_reducible show wpAny _ _ (eval (Expr.ListComp _ _ _ _) _) _ _ _)); (fail_if_success (with_reducible show wpAny _ _ (exec (Stmt.Assign [_] (Expr.ListComp _ _ _ _) _) _) _ _ _)); (fail_if_success (with_reducible show wpAny _ _ (compareOp CmpOp.NotEq (Value.ref _) (Value.ref _)) _ _ _)); (fail_if_success (with_reducible show wpAny _ _ (compareOp CmpOp.Eq (Value.ref _) (Value.ref _)) _ _ _)); (fail_if_success (with_reducible show wpAny _ _ (call (Value.builtin _) [Value.ref _]) _ _ _)); (fail_if_success (with_reducible show wpAny _ _ (call (Value.type _) [Value.ref _]) _ _ _)); (fail_if_success (with_reducible show wpAny _ _ (subscriptTail _ _ _ _) _ _ _)); (fail_if_success (with_reducible show wpAny _ _ (call (Value.builtin _) [Value.ref _, _]) _ _ _)); (first | walk1 | (dsimp only; walk1)); (try dsimp only)) | ((with_reducible show (Frag.In _ _ ∧ _)); walk1; (try dsimp only)) | ((with_reducible show ite _ _ _); walk1; (try dsimp only))))
    have nc := N3 (L' + 1 + 1, oh) (by k_memK)
    have hTTc := hTT.off (fun p hp => N3 p (by k_memK)) nc.1 (.inr fun its n q => by rw [d1] at q; cases q)
    have hDmo := Off1.mem off3
    have hDmc : Dm ≠ L' + 1 + 1 := fun q => hDmo (L' + 1 + 1, oh) (by k_memK) q.symm
    have hDmT : ∀ p ∈ TT, p.1 ≠ Dm := fun p hp => hDmo p (by k_memK)
    have hDmb : L' + 1 ≠ Dm := hDmo (L' + 1, ob) (by k_memK)
    refine wpAny_storeName_cell (c := L' + 1 + 1) rfl (by with_unfolding_all rfl) (by with_unfolding_all rfl) ⟨oh, nc.1, d1⟩ fun h4 hv4 hs4 => ?_
    obtain ⟨oh2, hoh2, dh2⟩ := hv4
    have F4 := fr_chg F3 (fun b o hb q => hs4.extBut b o hb q) nc.2.1 nc.2.2
    have N4 : News g L' h4 ((Dm, W.listOf (itemsOf zs) (zs.map Prod.fst).length) :: (L' + 1 + 1, oh2) :: (L' + 1, ob) :: TT) := by
      intro p hp
      rcases List.mem_cons.mp hp with rfl | hp
      · have n := N3 (Dm, W.listOf (itemsOf zs) (zs.map Prod.fst).length) (by k_memK)
        exact ⟨hs4.extBut _ _ hDmc n.1, n.2⟩
      rcases List.mem_cons.mp hp with rfl | hp
      · exact ⟨hoh2, nc.2⟩
      rcases List.mem_cons.mp hp with rfl | hp
      · have n := N3 (L' + 1, ob) (by k_memK)
        exact ⟨hs4.extBut _ _ hcb n.1, n.2⟩
      have n := N3 p (by k_memK)
      exact ⟨hs4.extBut _ _ (hTTc p hp) n.1, n.2⟩
    have hDmL := (N4 _ (List.Mem.head _)).2.1
    have hDmg := (N4 _ (List.Mem.head _)).2.2
    have hlz : zs.length = bs.length := by
      have := congrArg List.length hks
      simpa using this
    clear F3 N3 nc hs4
    (repeat' (first | (k_unfold; (try dsimp only)) | ((with_reducible show wpAny _ _ _ _ _ _); (fail_if_success (with_reducible show wpAny _ _ (exec (Stmt.While _ _ _ _) _) _ _ _)); (fail_if_success (with_reducible show wpAny _ _ (exec (Stmt.For _ _ _ _ _) _) _ _ _)); (fail_if_success (with_reducible show wpAny _ _ (eval (Expr.ListComp _ _ _ _) _) _ _ _)); (fail_if_success (with_reducible show wpAny _ _ (exec (Stmt.Assign [_] (Expr.ListComp _ _ _ _) _) _) _ _ _)); (fail_if_success (with_reducible show wpAny _ _ (compareOp CmpOp.NotEq (Value.ref _) (Value.ref _)) _ _ _)); (fail_if_success (with_reducible show wpAny _ _ (compareOp CmpOp.Eq (Value.ref _) (Value.ref _)) _ _ _)); (fail_if_success (with_reducible show wpAny _ _ (call (Value.builtin _) [Value.ref _]) _ _ _)); (fail_if_success (with_reducible show wpAny _ _ (call (Value.type _) [Value.ref _]) _ _ _)); (fail_if_success (with_reducible show wpAny _ _ (subscriptTail _ _ _ _) _ _ _)); (fail_if_success (with_reducible show wpAny _ _ (call (Value.builtin _) [Value.ref _, _]) _ _ _)); (first | walk1 | (dsimp only; walk1)); (try dsimp only)) | ((with_reducible show (Frag.In _ _ ∧ _)); walk1; (try dsimp only)) | ((with_reducible show ite _ _ _); walk1; (try dsimp only))))
    rename Fr _ _ _ _ => F5
    rename News _ _ _ (_ :: _ :: _ :: _) => N5
    refine heapify_spec (k := true) (zs := zs) G (fun b o hb q => F5.keep _ _ (Kg b o hb q)) (hA.less (e := 7) (by decide)).deeper (by exact (N5 (Dm, W.listOf (itemsOf zs) (zs.map Prod.fst).length) (by k_memK)).1) (fun z hz => (hzs z hz).itm fun p hp => (N5 p (by k_memK)).1) (gH _ hDmg) (by (first | lia | omega)) (by (first | lia | omega)) ?_
    intro h6 tk6 n6 hl6 k6
    have F6 := after1 F5 k6 hDmg hDmL
    have N6 : News g L' h6 ((Dm, W.listOf (itemsOf (hfGo (zs.length / 2) zs)) n6) :: (L' + 1 + 1, oh2) :: (L' + 1, ob) :: TT) := by
      refine after1N (o := W.listOf (itemsOf zs) (zs.map Prod.fst).length) N5 k6 hl6 fun p hp => ?_
      rcases List.mem_cons.mp hp with rfl | hp
      · exact hDmc.symm
      rcases List.mem_cons.mp hp with rfl | hp
      · exact hDmb
      exact hDmT p hp
    obtain ⟨pm, hh⟩ := heapify_facts zs
    have hHA : HeapAt bs.length (bellA bs) (hfGo (zs.length / 2) zs) := ⟨hh, (pm.map _).trans (by rw [hks]; exact List.Perm.refl _)⟩
    have hzs2 : ∀ z ∈ hfGo (zs.length / 2) zs, ItmIn TT z := fun z hz => hzs z (pm.mem_iff.mp hz)
    revert N6 hHA hzs2
    generalize hfGo (zs.length / 2) zs = zs2
    intro N6 hHA hzs2
    clear F5 N5 hl6 k6 pm hh hks hzs
    (repeat' (first | (k_unfold; (try dsimp only)) | ((with_reducible show wpAny _ _ _ _ _ _); (fail_if_success (with_reducible show wpAny _ _ (exec (Stmt.While _ _ _ _) _) _ _ _)); (fail_if_success (with_reducible show wpAny _ _ (exec (Stmt.For _ _ _ _ _) _) _ _ _)); (fail_if_success (with_reducible show wpAny _ _ (eval (Expr.ListComp _ _ _ _) _) _ _ _)); (fail_if_success (with_reducible show wpAny _ _ (exec (Stmt.Assign [_] (Expr.ListComp _ _ _ _) _) _) _ _ _)); (fail_if_success (with_reducible show wpAny _ _ (compareOp CmpOp.NotEq (Value.ref _) (Value.ref _)) _ _ _)); (fail_if_success (with_reducible show wpAny _ _ (compareOp CmpOp.Eq (Value.ref _) (Value.ref _)) _ _ _)); (fail_if_success (with_reducible show wpAny _ _ (call (Value.builtin _) [Value.ref _]) _ _ _)); (fail_if_success (with_reducible show wpAny _ _ (call (Value.type _) [Value.ref _]) _ _ _)); (fail_if_success (with_reducible show wpAny _ _ (subscriptTail _ _ _ _) _ _ _)); (fail_if_success (with_reducible show wpAny _ _ (call (Value.builtin _) [Value.ref _, _]) _ _ _)); (first | walk1 | (dsimp only; walk1)); (try dsimp only)) | ((with_reducible show (Frag.In _ _ ∧ _)); walk1; (try dsimp only)) | ((with_reducible show ite _ _ _); walk1; (try dsimp only))))
    rename Fr _ _ _ _ => F7
    rename News _ _ _ (_ :: _ :: _ :: _ :: _) => N7
    rename_i r hb7 lr hh7
    have hrD : r ≠ Dm := Nat.ne_of_gt lr.1
    have hrc : r ≠ L' + 1 + 1 := Nat.ne_of_gt lr.2.1
    have hrb : r ≠ L' + 1 := Nat.ne_of_gt lr.2.2.1
    clear lr
    refine While_inv2 (JWh r Dm L' oh2 ob bs) F7 N7
      ⟨zs2, [], TT, n6, 0, bellA bs, rfl, rfl, hTT, hzs2, (fun z hz => by cases hz), hHA, HInv.init ok, rfl⟩ ?_ PassesOwn.never
    clear F7 N7 hTT hzs2 hHA hTTc hDmT hlz
    rintro n m1 nx h8 tk8 F8 N8 ⟨zs, rz, TT, c1, c2, τ, rfl, b1, hTT, hzs, hrz, hHA, hI, rfl⟩
    have F9 : Fr g L' h8 _ := known1 (a := "rung") F8 b1
    clear F8
    obtain ⟨n0, hn0, hk0, hmin⟩ := hHA.top (by (first | lia | omega))
    have hlz := hHA.len
    have hm0 : at_ zs 0 ∈ zs := getD_mem (by (first | lia | omega))
    obtain ⟨a0, t0, u0, k0, ez0, hm⟩ := hzs _ hm0
    rw [hk0] at hm
    have ez : (zs.getD (0 : Int).toNat dZ).1 = .ref a0 := ez0
    (repeat' (first | (k_unfold; (try dsimp only)) | ((with_reducible show wpAny _ _ _ _ _ _); (fail_if_success (with_reducible show wpAny _ _ (exec (Stmt.While _ _ _ _) _) _ _ _)); (fail_if_success (with_reducible show wpAny _ _ (exec (Stmt.For _ _ _ _ _) _) _ _ _)); (fail_if_success (with_reducible show wpAny _ _ (eval (Expr.ListComp _ _ _ _) _) _ _ _)); (fail_if_success (with_reducible show wpAny _ _ (exec (Stmt.Assign [_] (Expr.ListComp _ _ _ _) _) _) _ _ _)); (fail_if_success (with_reducible show wpAny _ _ (compareOp CmpOp.NotEq (Value.ref _) (Value.ref _)) _ _ _)); (fail_if_success (with_reducible show wpAny _ _ (compareOp CmpOp.Eq (Value.ref _) (Value.ref _)) _ _ _)); (fail_if_success (with_reducible show wpAny _ _ (call (Value.builtin _) [Value.ref _]) _ _ _)); (fail_if_success (with_reducible show wpAny _ _ (call (Value.type _) [Value.ref _]) _ _ _)); (fail_if_success (with_reducible show wpAny _ _ (subscriptTail _ _ _ _) _ _ _)); (fail_if_success (with_reducible show wpAny _ _ (call (Value.builtin _) [Value.ref _, _]) _ _ _)); (first | walk1 | (dsimp only; walk1)); (try dsimp only)) | ((with_reducible show (Frag.In _ _ ∧ _)); walk1; (try dsimp only)) | ((with_reducible show ite _ _ _); walk1; (try dsimp only))))
    rename Fr _ _ _ _ => F10
    refine my_item (zs := zs) (N8 (Dm, W.listOf (itemsOf zs) c1) (by k_memK)).1 (by (first | lia | omega)) ?_
    rw [ez]
    (repeat' (first | (k_unfold; (try dsimp only)) | ((with_reducible show wpAny _ _ _ _ _ _); (fail_if_success (with_reducible show wpAny _ _ (exec (Stmt.While _ _ _ _) _) _ _ _)); (fail_if_success (with_reducible show wpAny _ _ (exec (Stmt.For _ _ _ _ _) _) _ _ _)); (fail_if_success (with_reducible show wpAny _ _ (eval (Expr.ListComp _ _ _ _) _) _ _ _)); (fail_if_success (with_reducible show wpAny _ _ (exec (Stmt.Assign [_] (Expr.ListComp _ _ _ _) _) _) _ _ _)); (fail_if_success (with_reducible show wpAny _ _ (compareOp CmpOp.NotEq (Value.ref _) (Value.ref _)) _ _ _)); (fail_if_success (with_reducible show wpAny _ _ (compareOp CmpOp.Eq (Value.ref _) (Value.ref _)) _ _ _)); (fail_if_success (with_reducible show wpAny _ _ (call (Value.builtin _) [Value.ref _]) _ _ _)); (fail_if_success (with_reducible show wpAny _ _ (call (Value.type _) [Value.ref _]) _ _ _)); (fail_if_success (with_reducible show wpAny _ _ (subscriptTail _ _ _ _) _ _ _)); (fail_if_success (with_reducible show wpAny _ _ (call (Value.builtin _) [Value.ref _, _]) _ _ _)); (first | walk1 | (dsimp only; walk1)); (try dsimp only)) | ((with_reducible show (Frag.In _ _ ∧ _)); walk1; (try dsimp only)) | ((with_reducible show ite _ _ _); walk1; (try dsimp only))))
    refine tup_item0 (N8 (a0, tup2 (τ n0) (n0 : Int) t0 u0 k0) (by k_memK)).1 ?_
    (repeat' (first | (k_unfold; (try dsimp only)) | ((with_reducible show wpAny _ _ _ _ _ _); (fail_if_success (with_reducible show wpAny _ _ (exec (Stmt.While _ _ _ _) _) _ _ _)); (fail_if_success (with_reducible show wpAny _ _ (exec (Stmt.For _ _ _ _ _) _) _ _ _)); (fail_if_success (with_reducible show wpAny _ _ (eval (Expr.ListComp _ _ _ _) _) _ _ _)); (fail_if_success (with_reducible show wpAny _ _ (exec (Stmt.Assign [_] (Expr.ListComp _ _ _ _) _) _) _ _ _)); (fail_if_success (with_reducible show wpAny _ _ (compareOp CmpOp.NotEq (Value.ref _) (Value.ref _)) _ _ _)); (fail_if_success (with_reducible show wpAny _ _ (compareOp CmpOp.Eq (Value.ref _) (Value.ref _)) _ _ _)); (fail_if_success (with_reducible show wpAny _ _ (call (Value.builtin _) [Value.ref _]) _ _ _)); (fail_if_success (with_reducible show wpAny _ _ (call (Value.type _) [Value.ref _]) _ _ _)); (fail_if_success (with_reducible show wpAny _ _ (subscriptTail _ _ _ _) _ _ _)); (fail_if_success (with_reducible show wpAny _ _ (call (Value.builtin _) [Value.ref _, _]) _ _ _)); (first | walk1 | (dsimp only; walk1)); (try dsimp only)) | ((with_reducible show (Frag.In _ _ ∧ _)); walk1; (try dsimp only)) | ((with_reducible show ite _ _ _); walk1; (try dsimp only))))
    · rename _ < (12 : Int) => h12
      obtain ⟨ab, hab⟩ : ∃ p, bs[n0]? = some p := ⟨bs[n0], by simp [hn0]⟩
      obtain ⟨Ti, ta, tb, nt, hvT, hT⟩ := htg.get n0 ab hab
      have eB : ab.2 = bellB bs n0 := by rw [bells_at hab]
      have N9 : News g L' h8 ((a0, tup2 (τ n0) (n0 : Int) t0 u0 k0) :: (r, W.listOf (itemsOf rz) c2) :: (Dm, W.listOf (itemsOf zs) c1) :: (L' + 1 + 1, oh2) :: (L' + 1, ob) :: TT) := fun p hp => by
        rcases List.mem_cons.mp hp with rfl | hp
        · exact N8 _ (by k_memK)
        · exact N8 p hp
      refine my_item (zs := zs) (N9 (Dm, W.listOf (itemsOf zs) c1) (by k_memK)).1 (by (first | lia | omega)) ?_
      rw [ez]
      clear N8
      (repeat' (first | (k_unfold; (try dsimp only)) | ((with_reducible show wpAny _ _ _ _ _ _); (fail_if_success (with_reducible show wpAny _ _ (exec (Stmt.While _ _ _ _) _) _ _ _)); (fail_if_success (with_reducible show wpAny _ _ (exec (Stmt.For _ _ _ _ _) _) _ _ _)); (fail_if_success (with_reducible show wpAny _ _ (eval (Expr.ListComp _ _ _ _) _) _ _ _)); (fail_if_success (with_reducible show wpAny _ _ (exec (Stmt.Assign [_] (Expr.ListComp _ _ _ _) _) _) _ _ _)); (fail_if_success (with_reducible show wpAny _ _ (compareOp CmpOp.NotEq (Value.ref _) (Value.ref _)) _ _ _)); (fail_if_success (with_reducible show wpAny _ _ (compareOp CmpOp.Eq (Value.ref _) (Value.ref _)) _ _ _)); (fail_if_success (with_reducible show wpAny _ _ (call (Value.builtin _) [Value.ref _]) _ _ _)); (fail_if_success (with_reducible show wpAny _ _ (call (Value.type _) [Value.ref _]) _ _ _)); (fail_if_success (with_reducible show wpAny _ _ (subscriptTail _ _ _ _) _ _ _)); (fail_if_success (with_reducible show wpAny _ _ (call (Value.builtin _) [Value.ref _, _]) _ _ _)); (first | walk1 | (dsimp only; walk1)); (try dsimp only)) | ((with_reducible show (Frag.In _ _ ∧ _)); walk1; (try dsimp only)) | ((with_reducible show ite _ _ _); walk1; (try dsimp only))))
      rename Fr _ _ _ _ => F11
      refine unpackN_ (items := #[.int (τ n0) t0, .int (n0 : Int) u0]) F11 N9 ⟨_, (N9 _ (List.Mem.head _)).1, rfl, _, rfl⟩ hA.hh (by rfl) (by rfl) fun h10 F12 N12 => ?_
      clear F11 N9
      (repeat' (first | (k_unfold; (try dsimp only)) | ((with_reducible show wpAny _ _ _ _ _ _); (fail_if_success (with_reducible show wpAny _ _ (exec (Stmt.While _ _ _ _) _) _ _ _)); (fail_if_success (with_reducible show wpAny _ _ (exec (Stmt.For _ _ _ _ _) _) _ _ _)); (fail_if_success (with_reducible show wpAny _ _ (eval (Expr.ListComp _ _ _ _) _) _ _ _)); (fail_if_success (with_reducible show wpAny _ _ (exec (Stmt.Assign [_] (Expr.ListComp _ _ _ _) _) _) _ _ _)); (fail_if_success (with_reducible show wpAny _ _ (compareOp CmpOp.NotEq (Value.ref _) (Value.ref _)) _ _ _)); (fail_if_success (with_reducible show wpAny _ _ (compareOp CmpOp.Eq (Value.ref _) (Value.ref _)) _ _ _)); (fail_if_success (with_reducible show wpAny _ _ (call (Value.builtin _) [Value.ref _]) _ _ _)); (fail_if_success (with_reducible show wpAny _ _ (call (Value.type _) [Value.ref _]) _ _ _)); (fail_if_success (with_reducible show wpAny _ _ (subscriptTail _ _ _ _) _ _ _)); (fail_if_success (with_reducible show wpAny _ _ (call (Value.builtin _) [Value.ref _, _]) _ _ _)); (first | walk1 | (dsimp only; walk1)); (try dsimp only)) | ((with_reducible show (Frag.In _ _ ∧ _)); walk1; (try dsimp only)) | ((with_reducible show ite _ _ _); walk1; (try dsimp only))))
      rename Fr _ _ _ _ => F13
      refine bell_item (F13.keep _ _ hblg) (by (first | lia | omega)) (by rw [Int.toNat_natCast]; exact hvT) ?_
      (repeat' (first | (k_unfold; (try dsimp only)) | ((with_reducible show wpAny _ _ _ _ _ _); (fail_if_success (with_reducible show wpAny _ _ (exec (Stmt.While _ _ _ _) _) _ _ _)); (fail_if_success (with_reducible show wpAny _ _ (exec (Stmt.For _ _ _ _ _) _) _ _ _)); (fail_if_success (with_reducible show wpAny _ _ (eval (Expr.ListComp _ _ _ _) _) _ _ _)); (fail_if_success (with_reducible show wpAny _ _ (exec (Stmt.Assign [_] (Expr.ListComp _ _ _ _) _) _) _ _ _)); (fail_if_success (with_reducible show wpAny _ _ (compareOp CmpOp.NotEq (Value.ref _) (Value.ref _)) _ _ _)); (fail_if_success (with_reducible show wpAny _ _ (compareOp CmpOp.Eq (Value.ref _) (Value.ref _)) _ _ _)); (fail_if_success (with_reducible show wpAny _ _ (call (Value.builtin _) [Value.ref _]) _ _ _)); (fail_if_success (with_reducible show wpAny _ _ (call (Value.type _) [Value.ref _]) _ _ _)); (fail_if_success (with_reducible show wpAny _ _ (subscriptTail _ _ _ _) _ _ _)); (fail_if_success (with_reducible show wpAny _ _ (call (Value.builtin _) [Value.ref _, _]) _ _ _)); (first | walk1 | (dsimp only; walk1)); (try dsimp only)) | ((with_reducible show (Frag.In _ _ ∧ _)); walk1; (try dsimp only)) | ((with_reducible show ite _ _ _); walk1; (try dsimp only))))
      refine tup_item1 (F13.keep _ _ hT) ?_
      (repeat' (first | (k_unfold; (try dsimp only)) | ((with_reducible show wpAny _ _ _ _ _ _); (fail_if_success (with_reducible show wpAny _ _ (exec (Stmt.While _ _ _ _) _) _ _ _)); (fail_if_success (with_reducible show wpAny _ _ (exec (Stmt.For _ _ _ _ _) _) _ _ _)); (fail_if_success (with_reducible show wpAny _ _ (eval (Expr.ListComp _ _ _ _) _) _ _ _)); (fail_if_success (with_reducible show wpAny _ _ (exec (Stmt.Assign [_] (Expr.ListComp _ _ _ _) _) _) _ _ _)); (fail_if_success (with_reducible show wpAny _ _ (compareOp CmpOp.NotEq (Value.ref _) (Value.ref _)) _ _ _)); (fail_if_success (with_reducible show wpAny _ _ (compareOp CmpOp.Eq (Value.ref _) (Value.ref _)) _ _ _)); (fail_if_success (with_reducible show wpAny _ _ (call (Value.builtin _) [Value.ref _]) _ _ _)); (fail_if_success (with_reducible show wpAny _ _ (call (Value.type _) [Value.ref _]) _ _ _)); (fail_if_success (with_reducible show wpAny _ _ (subscriptTail _ _ _ _) _ _ _)); (fail_if_success (with_reducible show wpAny _ _ (call (Value.builtin _) [Value.ref _, _]) _ _ _)); (first | walk1 | (dsimp only; walk1)); (try dsimp only)) | ((with_reducible show (Frag.In _ _ ∧ _)); walk1; (try dsimp only)) | ((with_reducible show ite _ _ _); walk1; (try dsimp only))))
      rename Fr _ _ _ _ => F14
      rename News _ _ _ (_ :: _ :: _ :: _ :: _ :: _ :: _) => N14
      rename_i Tn hb14 lT
      obtain ⟨tn1, htn1⟩ : ∃ y, y = tk + 1 := ⟨_, rfl⟩
      rw [← htn1] at N14
      have hTTD := hTT.off (fun p hp => N14 p (by k_memK)) (N14 (Dm, W.listOf (itemsOf zs) c1) (by k_memK)).1 (.inl (ty_ne (by decide)))
      have hTTr := hTT.off (fun p hp => N14 p (by k_memK)) (N14 (r, W.listOf (itemsOf rz) c2) (by k_memK)).1 (.inl (ty_ne (by decide)))
      have hTnD : Tn ≠ Dm := Nat.ne_of_gt lT.2.2.1
      have hTnr : Tn ≠ r := Nat.ne_of_gt lT.2.1
      refine heapreplace_spec (k := true) (zs := zs) (z := (.ref Tn, (τ n0 + ab.2, (n0 : Int)))) G (fun b o hb q => F14.keep _ _ (Kg b o hb q)) (hA.less (e := 6) (by decide)).deeper rfl (by exact (N14 (Dm, W.listOf (itemsOf zs) c1) (by k_memK)).1) (fun z hz => (hzs z hz).itm fun p hp => (N14 p (by k_memK)).1) ⟨Tn, _, _, _, rfl, (N14 _ (List.Mem.head _)).1⟩ (gH _ hDmg) (by (first | lia | omega)) (by (first | lia | omega)) ?_
      intro h15 tk15 n15 hl15 k15
      have F15 := after1 F14 k15 hDmg hDmL
      have N15 : News g L' h15 ((r, W.listOf (itemsOf rz) c2) :: (Dm, W.listOf (itemsOf (suL 0 (zs.set 0 (.ref Tn, (τ n0 + ab.2, (n0 : Int)))))) n15) :: (L' + 1 + 1, oh2) :: (L' + 1, ob) :: (Tn, tup2 (τ n0 + ab.2) (n0 : Int) tn1 u0 0) :: TT) := by
        intro p hp
        rcases List.mem_cons.mp hp with rfl | hp
        · have n := N14 (r, W.listOf (itemsOf rz) c2) (by k_memK)
          exact ⟨k15 _ _ (by simpa using hrD) n.1, n.2⟩
        rcases List.mem_cons.mp hp with rfl | hp
        · exact ⟨hl15, hDmL, hDmg⟩
        rcases List.mem_cons.mp hp with rfl | hp
        · have n := N14 (L' + 1 + 1, oh2) (by k_memK)
          exact ⟨k15 _ _ (by simpa using hDmc.symm) n.1, n.2⟩
        rcases List.mem_cons.mp hp with rfl | hp
        · have n := N14 (L' + 1, ob) (by k_memK)
          exact ⟨k15 _ _ (by simpa using hDmb) n.1, n.2⟩
        rcases List.mem_cons.mp hp with rfl | hp
        · have n := N14 _ (List.Mem.head _)
          exact ⟨k15 _ _ (by simpa using hTnD) n.1, n.2⟩
        have n := N14 p (by k_memK)
        exact ⟨k15 _ _ (by simpa using hTTD p hp) n.1, n.2⟩
      clear F14 N14 hl15 k15
      (repeat' (first | (k_unfold; (try dsimp only)) | ((with_reducible show wpAny _ _ _ _ _ _); (fail_if_success (with_reducible show wpAny _ _ (exec (Stmt.While _ _ _ _) _) _ _ _)); (fail_if_success (with_reducible show wpAny _ _ (exec (Stmt.For _ _ _ _ _) _) _ _ _)); (fail_if_success (with_reducible show wpAny _ _ (eval (Expr.ListComp _ _ _ _) _) _ _ _)); (fail_if_success (with_reducible show wpAny _ _ (exec (Stmt.Assign [_] (Expr.ListComp _ _ _ _) _) _) _ _ _)); (fail_if_success (with_reducible show wpAny _ _ (compareOp CmpOp.NotEq (Value.ref _) (Value.ref _)) _ _ _)); (fail_if_success (with_reducible show wpAny _ _ (compareOp CmpOp.Eq (Value.ref _) (Value.ref _)) _ _ _)); (fail_if_success (with_reducible show wpAny _ _ (call (Value.builtin _) [Value.ref _]) _ _ _)); (fail_if_success (with_reducible show wpAny _ _ (call (Value.type _) [Value.ref _]) _ _ _)); (fail_if_success (with_reducible show wpAny _ _ (subscriptTail _ _ _ _) _ _ _)); (fail_if_success (with_reducible show wpAny _ _ (call (Value.builtin _) [Value.ref _, _]) _ _ _)); (first | walk1 | (dsimp only; walk1)); (try dsimp only)) | ((with_reducible show (Frag.In _ _ ∧ _)); walk1; (try dsimp only)) | ((with_reducible show ite _ _ _); walk1; (try dsimp only))))
      rename Fr _ _ _ _ => F16
      rename News _ _ _ (_ :: _ :: _ :: _ :: _ :: _) => N16
      have hln := hI.len
      rw [List.length_map] at hln
      refine my_append (zs := rz) (at_ zs 0) F16 N16 (.head (fun p hp => ?_)) (by (first | lia | omega)) rfl fun h17 F17 N17 => ?_
      · rcases List.mem_cons.mp hp with rfl | hp
        · exact hrD.symm
        rcases List.mem_cons.mp hp with rfl | hp
        · exact hrc.symm
        rcases List.mem_cons.mp hp with rfl | hp
        · exact hrb.symm
        rcases List.mem_cons.mp hp with rfl | hp
        · exact hTnr
        exact hTTr p hp
      clear F16 N16
      (repeat' (first | (k_unfold; (try dsimp only)) | ((with_reducible show wpAny _ _ _ _ _ _); (fail_if_success (with_reducible show wpAny _ _ (exec (Stmt.While _ _ _ _) _) _ _ _)); (fail_if_success (with_reducible show wpAny _ _ (exec (Stmt.For _ _ _ _ _) _) _ _ _)); (fail_if_success (with_reducible show wpAny _ _ (eval (Expr.ListComp _ _ _ _) _) _ _ _)); (fail_if_success (with_reducible show wpAny _ _ (exec (Stmt.Assign [_] (Expr.ListComp _ _ _ _) _) _) _ _ _)); (fail_if_success (with_reducible show wpAny _ _ (compareOp CmpOp.NotEq (Value.ref _) (Value.ref _)) _ _ _)); (fail_if_success (with_reducible show wpAny _ _ (compareOp CmpOp.Eq (Value.ref _) (Value.ref _)) _ _ _)); (fail_if_success (with_reducible show wpAny _ _ (call (Value.builtin _) [Value.ref _]) _ _ _)); (fail_if_success (with_reducible show wpAny _ _ (call (Value.type _) [Value.ref _]) _ _ _)); (fail_if_success (with_reducible show wpAny _ _ (subscriptTail _ _ _ _) _ _ _)); (fail_if_success (with_reducible show wpAny _ _ (call (Value.builtin _) [Value.ref _, _]) _ _ _)); (first | walk1 | (dsimp only; walk1)); (try dsimp only)) | ((with_reducible show (Frag.In _ _ ∧ _)); walk1; (try dsimp only)) | ((with_reducible show ite _ _ _); walk1; (try dsimp only))))
      obtain ⟨hI2, hlt⟩ := hI.step ok hn0 h12 hmin
      refine ⟨_, _, _, _, msum bs.length (tauUp τ n0 (τ n0 + bellB bs n0)), rfl, F17, N17, hlt, suL 0 (zs.set 0 (.ref Tn, (τ n0 + ab.2, (n0 : Int)))), rz ++ [at_ zs 0], (Tn, tup2 (τ n0 + ab.2) (n0 : Int) tn1 u0 0) :: TT, n15, c2 + 1, tauUp τ n0 (τ n0 + bellB bs n0), rfl, rfl, hTT.cons, fun z hz => ?_, fun z hz => ?_, hHA.rep hn0 hk0 (by rw [eB]), ?_, rfl⟩
      · rcases List.mem_cons.mp ((replace_perm (z := ((.ref Tn, (τ n0 + ab.2, (n0 : Int))) : Z)) (show 0 < zs.length by (first | lia | omega))).mem_iff.mp (List.Mem.tail _ hz)) with rfl | hz
        · exact ⟨Tn, _, _, _, rfl, List.Mem.head _⟩
        · exact (hzs z hz).mono fun p hp => List.Mem.tail _ hp
      · rcases List.mem_append.mp hz with hz | hz
        · exact (hrz z hz).mono fun p hp => List.Mem.tail _ hp
        · rw [List.mem_singleton.mp hz]
          exact (hzs _ hm0).mono fun p hp => List.Mem.tail _ hp
      · rw [List.map_append, List.map_cons, List.map_nil, hk0]
        exact hI2
    · rename ¬ _ < (12 : Int) => h12
      have hall : ∀ n < bs.length, 12 ≤ τ n := fun n hn => by
        have := klt_no.mp (hmin n hn)
        dsimp only at this; (first | lia | omega)
      obtain ⟨hps, hτ⟩ := hI.fin ok hall
      clear ez ez0 hm a0 hk0
      first
        | refine LCg.Assign_ListComp_U (F₀ := F10) (by rfl) (by with_unfolding_all rfl) (by with_unfolding_all rfl) (by decide) (by rfl) (by decide) (by rfl) (by with_unfolding_all rfl) (by rfl) ?_
        | refine wpAny_Assign_Name (LCg.ListComp_U (F₀ := F10) (by with_unfolding_all rfl) (by decide) (by rfl) (by decide) (by rfl) ?_)
      (repeat' (first | (k_unfold; (try dsimp only)) | ((with_reducible show wpAny _ _ _ _ _ _); (fail_if_success (with_reducible show wpAny _ _ (exec (Stmt.While _ _ _ _) _) _ _ _)); (fail_if_success (with_reducible show wpAny _ _ (exec (Stmt.For _ _ _ _ _) _) _ _ _)); (fail_if_success (with_reducible show wpAny _ _ (eval (Expr.ListComp _ _ _ _) _) _ _ _)); (fail_if_success (with_reducible show wpAny _ _ (exec (Stmt.Assign [_] (Expr.ListComp _ _ _ _) _) _) _ _ _)); (fail_if_success (with_reducible show wpAny _ _ (compareOp CmpOp.NotEq (Value.ref _) (Value.ref _)) _ _ _)); (fail_if_success (with_reducible show wpAny _ _ (compareOp CmpOp.Eq (Value.ref _) (Value.ref _)) _ _ _)); (fail_if_success (with_reducible show wpAny _ _ (call (Value.builtin _) [Value.ref _]) _ _ _)); (fail_if_success (with_reducible show wpAny _ _ (call (Value.type _) [Value.ref _]) _ _ _)); (fail_if_success (with_reducible show wpAny _ _ (subscriptTail _ _ _ _) _ _ _)); (fail_if_success (with_reducible show wpAny _ _ (call (Value.builtin _) [Value.ref _, _]) _ _ _)); (first | walk1 | (dsimp only; walk1)); (try dsimp only)) | ((with_reducible show (Frag.In _ _ ∧ _)); walk1; (try dsimp only)) | ((with_reducible show ite _ _ _); walk1; (try dsimp only))))
      refine my_len (zs := zs) (N8 (Dm, W.listOf (itemsOf zs) c1) (by k_memK)).1 (by (first | lia | omega)) ?_
      rw [hlz]
      (repeat' (first | (k_unfold; (try dsimp only)) | ((with_reducible show wpAny _ _ _ _ _ _); (fail_if_success (with_reducible show wpAny _ _ (exec (Stmt.While _ _ _ _) _) _ _ _)); (fail_if_success (with_reducible show wpAny _ _ (exec (Stmt.For _ _ _ _ _) _) _ _ _)); (fail_if_success (with_reducible show wpAny _ _ (eval (Expr.ListComp _ _ _ _) _) _ _ _)); (fail_if_success (with_reducible show wpAny _ _ (exec (Stmt.Assign [_] (Expr.ListComp _ _ _ _) _) _) _ _ _)); (fail_if_success (with_reducible show wpAny _ _ (compareOp CmpOp.NotEq (Value.ref _) (Value.ref _)) _ _ _)); (fail_if_success (with_reducible show wpAny _ _ (compareOp CmpOp.Eq (Value.ref _) (Value.ref _)) _ _ _)); (fail_if_success (with_reducible show wpAny _ _ (call (Value.builtin _) [Value.ref _]) _ _ _)); (fail_if_success (with_reducible show wpAny _ _ (call (Value.type _) [Value.ref _]) _ _ _)); (fail_if_success (with_reducible show wpAny _ _ (subscriptTail _ _ _ _) _ _ _)); (fail_if_success (with_reducible show wpAny _ _ (call (Value.builtin _) [Value.ref _, _]) _ _ _)); (first | walk1 | (dsimp only; walk1)); (try dsimp only)) | ((with_reducible show (Frag.In _ _ ∧ _)); walk1; (try dsimp only)) | ((with_reducible show ite _ _ _); walk1; (try dsimp only))))
      rename IsRange _ _ _ _ _ _ _ _ => hR
      rename News _ _ _ (_ :: _ :: _ :: _ :: _) => N11
      rename Fr _ _ _ _ => F11
      refine LCg.CompSrc.range (n := bs.length) (by exact hA.hh) F11 N11 hR (rsmall (by (first | lia | omega)) (by (first | lia | omega))) (rsize (by (first | lia | omega))) (by rw [sizeLine_eq]; (first | lia | omega)) fun g2 => ?_
      refine rest_gen (JCh2 r Dm L' oh2 ob TT τ rz c2 bs) (n := bs.length) ?_ ?_ bs.length 0 [] _ (by (first | lia | omega))
        ⟨[], zs, c1, rfl, rfl, ⟨hHA.1, by simpa using hHA.2, List.Pairwise.nil, (fun y hy => by cases hy), rfl⟩, hzs, (fun z hz => by cases hz)⟩
      · clear hR F11 N11
        rintro i ys news hi ⟨yz, zs', c, rfl, rfl, hP, hz1, hz2⟩ v I oI C oC Dx m₂ h tk E' ⟨tv, rfl⟩ hC hx F' N' off ne
        obtain ⟨zs3, z3, rfl, hl3⟩ := hP.more (by simpa [keysOf] using hi)
        have hl3 : zs3.length < bs.length := by simpa [keysOf] using hl3
        (repeat' (first | (k_unfold; (try dsimp only)) | ((with_reducible show wpAny _ _ _ _ _ _); (fail_if_success (with_reducible show wpAny _ _ (exec (Stmt.While _ _ _ _) _) _ _ _)); (fail_if_success (with_reducible show wpAny _ _ (exec (Stmt.For _ _ _ _ _) _) _ _ _)); (fail_if_success (with_reducible show wpAny _ _ (eval (Expr.ListComp _ _ _ _) _) _ _ _)); (fail_if_success (with_reducible show wpAny _ _ (exec (Stmt.Assign [_] (Expr.ListComp _ _ _ _) _) _) _ _ _)); (fail_if_success (with_reducible show wpAny _ _ (compareOp CmpOp.NotEq (Value.ref _) (Value.ref _)) _ _ _)); (fail_if_success (with_reducible show wpAny _ _ (compareOp CmpOp.Eq (Value.ref _) (Value.ref _)) _ _ _)); (fail_if_success (with_reducible show wpAny _ _ (call (Value.builtin _) [Value.ref _]) _ _ _)); (fail_if_success (with_reducible show wpAny _ _ (call (Value.type _) [Value.ref _]) _ _ _)); (fail_if_success (with_reducible show wpAny _ _ (subscriptTail _ _ _ _) _ _ _)); (fail_if_success (with_reducible show wpAny _ _ (call (Value.builtin _) [Value.ref _, _]) _ _ _)); (first | walk1 | (dsimp only; walk1)); (try dsimp only)) | ((with_reducible show (Frag.In _ _ ∧ _)); walk1; (try dsimp only)) | ((with_reducible show ite _ _ _); walk1; (try dsimp only))))
        refine exF (heappop_spec (k := true) (zs := zs3) (z := z3) G (fun b o hb q => F'.keep _ _ (Kg b o hb q)) (hA.less (e := 6) (by decide)).deeper (by exact (N' (Dm, W.listOf (itemsOf (zs3 ++ [z3])) c) (by k_memK)).1) (fun y hy => (hz1 y (by simp [hy])).itm fun p hp => (N' p (by k_memK)).1) ((hz1 z3 (by simp)).itm fun p hp => (N' p (by k_memK)).1) (gH _ hDmg) (by (first | lia | omega)) ?_)
        intro h12' tk12 n12 hl12 k12
        have hTTD := hTT.off (fun p hp => N' p (by k_memK)) (N' (Dm, W.listOf (itemsOf (zs3 ++ [z3])) c) (by k_memK)).1 (.inl (ty_ne (by decide)))
        refine ⟨h12', tk12, (r, W.listOf (itemsOf rz) c2) :: (Dm, W.listOf (itemsOf (popL zs3 z3)) n12) :: (L' + 1 + 1, oh2) :: (L' + 1, ob) :: TT, rfl, after1 F' k12 hDmg hDmL, ?_, off, trivial, yz ++ [popV zs3 z3], popL zs3 z3, n12, rfl, by simp, hP.step, fun y hy => ?_, fun y hy => ?_⟩
        · have offm := off.mem
          have oD := offm (Dm, W.listOf (itemsOf (zs3 ++ [z3])) c) (by k_memK)
          intro p hp
          rcases List.mem_cons.mp hp with rfl | hp
          · have n := N' (I, oI) (by k_memK)
            exact ⟨k12 _ _ (by simpa using Ne.symm oD.1) n.1, n.2⟩
          rcases List.mem_cons.mp hp with rfl | hp
          · have n := N' (C, oC) (by k_memK)
            exact ⟨k12 _ _ (by simpa using Ne.symm oD.2.1) n.1, n.2⟩
          rcases List.mem_cons.mp hp with rfl | hp
          · have n := N' (Dx, lst (yz.map Prod.fst)) (by k_memK)
            exact ⟨k12 _ _ (by simpa using Ne.symm oD.2.2) n.1, n.2⟩
          rcases List.mem_cons.mp hp with rfl | hp
          · have n := N' (r, W.listOf (itemsOf rz) c2) (by k_memK)
            exact ⟨k12 _ _ (by simpa using hrD) n.1, n.2⟩
          rcases List.mem_cons.mp hp with rfl | hp
          · exact ⟨hl12, hDmL, hDmg⟩
          rcases List.mem_cons.mp hp with rfl | hp
          · have n := N' (L' + 1 + 1, oh2) (by k_memK)
            exact ⟨k12 _ _ (by simpa using hDmc.symm) n.1, n.2⟩
          rcases List.mem_cons.mp hp with rfl | hp
          · have n := N' (L' + 1, ob) (by k_memK)
            exact ⟨k12 _ _ (by simpa using hDmb) n.1, n.2⟩
          have n := N' p (by k_memK)
          exact ⟨k12 _ _ (by simpa using hTTD p hp) n.1, n.2⟩
        · exact hz1 y ((pop_perm zs3 z3).mem_iff.mp (List.Mem.tail _ hy))
        · rcases List.mem_append.mp hy with hy | hy
          · exact hz2 y hy
          · rw [List.mem_singleton.mp hy]
            exact hz1 _ ((pop_perm zs3 z3).mem_iff.mp (List.Mem.head _))
      · clear hR F11 N11
        rintro ys news ⟨yz, zs', c, rfl, rfl, hP, hz1, hz2⟩
        have hyz := hP.fin (by simp [keysOf])
        have hys := hP.srt
        rw [keysOf_congr hτ] at hyz
        intro Dr h13 tk13 F13 N13 off13
        have N13 : News g L' h13 ((Dr, W.listOf (itemsOf yz) (yz.map Prod.fst).length) :: (r, W.listOf (itemsOf rz) c2) :: (L' + 1 + 1, oh2) :: (L' + 1, ob) :: TT) := fun p hp => N13 p (by
          simp only [List.mem_cons] at hp ⊢
          rcases hp with h | h | h | h | h
          · exact .inl h
          · exact .inr (.inl h)
          · exact .inr (.inr (.inr (.inl h)))
          · exact .inr (.inr (.inr (.inr (.inl h))))
          · exact .inr (.inr (.inr (.inr (.inr h)))))
        clear hHA hzs hz1 hI
        (repeat' (first | (k_unfold; (try dsimp only)) | ((with_reducible show wpAny _ _ _ _ _ _); (fail_if_success (with_reducible show wpAny _ _ (exec (Stmt.While _ _ _ _) _) _ _ _)); (fail_if_success (with_reducible show wpAny _ _ (exec (Stmt.For _ _ _ _ _) _) _ _ _)); (fail_if_success (with_reducible show wpAny _ _ (eval (Expr.ListComp _ _ _ _) _) _ _ _)); (fail_if_success (with_reducible show wpAny _ _ (exec (Stmt.Assign [_] (Expr.ListComp _ _ _ _) _) _) _ _ _)); (fail_if_success (with_reducible show wpAny _ _ (compareOp CmpOp.NotEq (Value.ref _) (Value.ref _)) _ _ _)); (fail_if_success (with_reducible show wpAny _ _ (compareOp CmpOp.Eq (Value.ref _) (Value.ref _)) _ _ _)); (fail_if_success (with_reducible show wpAny _ _ (call (Value.builtin _) [Value.ref _]) _ _ _)); (fail_if_success (with_reducible show wpAny _ _ (call (Value.type _) [Value.ref _]) _ _ _)); (fail_if_success (with_reducible show wpAny _ _ (subscriptTail _ _ _ _) _ _ _)); (fail_if_success (with_reducible show wpAny _ _ (call (Value.builtin _) [Value.ref _, _]) _ _ _)); (first | walk1 | (dsimp only; walk1)); (try dsimp only)) | ((with_reducible show (Frag.In _ _ ∧ _)); walk1; (try dsimp only)) | ((with_reducible show ite _ _ _); walk1; (try dsimp only))))
        rename Fr _ _ _ _ => F14
        rename News _ _ _ (_ :: _ :: _ :: _ :: _) => N14
        refine LCg.ListComp_U (F₀ := F14) (by with_unfolding_all rfl) (by decide) (by rfl) (by decide) (by rfl) ?_
        (repeat' (first | (k_unfold; (try dsimp only)) | ((with_reducible show wpAny _ _ _ _ _ _); (fail_if_success (with_reducible show wpAny _ _ (exec (Stmt.While _ _ _ _) _) _ _ _)); (fail_if_success (with_reducible show wpAny _ _ (exec (Stmt.For _ _ _ _ _) _) _ _ _)); (fail_if_success (with_reducible show wpAny _ _ (eval (Expr.ListComp _ _ _ _) _) _ _ _)); (fail_if_success (with_reducible show wpAny _ _ (exec (Stmt.Assign [_] (Expr.ListComp _ _ _ _) _) _) _ _ _)); (fail_if_success (with_reducible show wpAny _ _ (compareOp CmpOp.NotEq (Value.ref _) (Value.ref _)) _ _ _)); (fail_if_success (with_reducible show wpAny _ _ (compareOp CmpOp.Eq (Value.ref _) (Value.ref _)) _ _ _)); (fail_if_success (with_reducible show wpAny _ _ (call (Value.builtin _) [Value.ref _]) _ _ _)); (fail_if_success (with_reducible show wpAny _ _ (call (Value.type _) [Value.ref _]) _ _ _)); (fail_if_success (with_reducible show wpAny _ _ (subscriptTail _ _ _ _) _ _ _)); (fail_if_success (with_reducible show wpAny _ _ (call (Value.builtin _) [Value.ref _, _]) _ _ _)); (first | walk1 | (dsimp only; walk1)); (try dsimp only)) | ((with_reducible show (Frag.In _ _ ∧ _)); walk1; (try dsimp only)) | ((with_reducible show ite _ _ _); walk1; (try dsimp only))))
        refine len_list (items := vs.toArray) ⟨_, F14.keep _ _ hblg, rfl, _, rfl⟩ (by rw [es]; (first | lia | omega)) ?_
        rw [es]
        (repeat' (first | (k_unfold; (try dsimp only)) | ((with_reducible show wpAny _ _ _ _ _ _); (fail_if_success (with_reducible show wpAny _ _ (exec (Stmt.While _ _ _ _) _) _ _ _)); (fail_if_success (with_reducible show wpAny _ _ (exec (Stmt.For _ _ _ _ _) _) _ _ _)); (fail_if_success (with_reducible show wpAny _ _ (eval (Expr.ListComp _ _ _ _) _) _ _ _)); (fail_if_success (with_reducible show wpAny _ _ (exec (Stmt.Assign [_] (Expr.ListComp _ _ _ _) _) _) _ _ _)); (fail_if_success (with_reducible show wpAny _ _ (compareOp CmpOp.NotEq (Value.ref _) (Value.ref _)) _ _ _)); (fail_if_success (with_reducible show wpAny _ _ (compareOp CmpOp.Eq (Value.ref _) (Value.ref _)) _ _ _)); (fail_if_success (with_reducible show wpAny _ _ (call (Value.builtin _) [Value.ref _]) _ _ _)); (fail_if_success (with_reducible show wpAny _ _ (call (Value.type _) [Value.ref _]) _ _ _)); (fail_if_success (with_reducible show wpAny _ _ (subscriptTail _ _ _ _) _ _ _)); (fail_if_success (with_reducible show wpAny _ _ (call (Value.builtin _) [Value.ref _, _]) _ _ _)); (first | walk1 | (dsimp only; walk1)); (try dsimp only)) | ((with_reducible show (Frag.In _ _ ∧ _)); walk1; (try dsimp only)) | ((with_reducible show ite _ _ _); walk1; (try dsimp only))))
        rename IsRange _ _ _ _ _ _ _ _ => hR
        rename News _ _ _ (_ :: _ :: _ :: _ :: _) => N15
        rename Fr _ _ _ _ => F15
        refine LCg.CompSrc.range (n := bs.length) (by exact hA.hh) F15 N15 hR (rsmall (by (first | lia | omega)) (by (first | lia | omega))) (rsize (by (first | lia | omega))) (by rw [sizeLine_eq]; (first | lia | omega)) fun g3 => ?_
        refine rest_gen (JCh3 Dr r L' oh2 ob TT yz rz c2 bs) (n := bs.length) ?_ ?_ bs.length 0 [] _ (by (first | lia | omega)) ⟨TT, rfl, (fun p hp => hp), .nil⟩
        · clear hR F15 N15
          rintro i ys news hi ⟨T2, rfl, hsub, htm⟩ v I oI C oC Dx m₂ h tk E' ⟨tv, rfl⟩ hC hx F' N' off ne
          obtain ⟨ab, hab⟩ : ∃ p, bs[i]? = some p := ⟨bs[i], by simp [hi]⟩
          obtain ⟨Ti, ta, tb, nt, hvT, hT⟩ := htg.get i ab hab
          have hvT2 : vs[((0 : Int) + (i : Int)).toNat]? = some (.ref Ti) := by rw [show ((0 : Int) + (i : Int)).toNat = i by (first | lia | omega)]; exact hvT
          have hbi := bells_all ok ab (List.mem_of_getElem? hab)
          have hTH : H.get? Ti = none := hoff _ _ hbl Ti (by simpa using List.mem_of_getElem? hvT)
          (repeat' (first | (k_unfold; (try dsimp only)) | ((with_reducible show wpAny _ _ _ _ _ _); (fail_if_success (with_reducible show wpAny _ _ (exec (Stmt.While _ _ _ _) _) _ _ _)); (fail_if_success (with_reducible show wpAny _ _ (exec (Stmt.For _ _ _ _ _) _) _ _ _)); (fail_if_success (with_reducible show wpAny _ _ (eval (Expr.ListComp _ _ _ _) _) _ _ _)); (fail_if_success (with_reducible show wpAny _ _ (exec (Stmt.Assign [_] (Expr.ListComp _ _ _ _) _) _) _ _ _)); (fail_if_success (with_reducible show wpAny _ _ (compareOp CmpOp.NotEq (Value.ref _) (Value.ref _)) _ _ _)); (fail_if_success (with_reducible show wpAny _ _ (compareOp CmpOp.Eq (Value.ref _) (Value.ref _)) _ _ _)); (fail_if_success (with_reducible show wpAny _ _ (call (Value.builtin _) [Value.ref _]) _ _ _)); (fail_if_success (with_reducible show wpAny _ _ (call (Value.type _) [Value.ref _]) _ _ _)); (fail_if_success (with_reducible show wpAny _ _ (subscriptTail _ _ _ _) _ _ _)); (fail_if_success (with_reducible show wpAny _ _ (call (Value.builtin _) [Value.ref _, _]) _ _ _)); (first | walk1 | (dsimp only; walk1)); (try dsimp only)) | ((with_reducible show (Frag.In _ _ ∧ _)); walk1; (try dsimp only)) | ((with_reducible show ite _ _ _); walk1; (try dsimp only))))
          refine bell_item (F'.keep _ _ hblg) (by (first | lia | omega)) hvT2 ?_
          (repeat' (first | (k_unfold; (try dsimp only)) | ((with_reducible show wpAny _ _ _ _ _ _); (fail_if_success (with_reducible show wpAny _ _ (exec (Stmt.While _ _ _ _) _) _ _ _)); (fail_if_success (with_reducible show wpAny _ _ (exec (Stmt.For _ _ _ _ _) _) _ _ _)); (fail_if_success (with_reducible show wpAny _ _ (eval (Expr.ListComp _ _ _ _) _) _ _ _)); (fail_if_success (with_reducible show wpAny _ _ (exec (Stmt.Assign [_] (Expr.ListComp _ _ _ _) _) _) _ _ _)); (fail_if_success (with_reducible show wpAny _ _ (compareOp CmpOp.NotEq (Value.ref _) (Value.ref _)) _ _ _)); (fail_if_success (with_reducible show wpAny _ _ (compareOp CmpOp.Eq (Value.ref _) (Value.ref _)) _ _ _)); (fail_if_success (with_reducible show wpAny _ _ (call (Value.builtin _) [Value.ref _]) _ _ _)); (fail_if_success (with_reducible show wpAny _ _ (call (Value.type _) [Value.ref _]) _ _ _)); (fail_if_success (with_reducible show wpAny _ _ (subscriptTail _ _ _ _) _ _ _)); (fail_if_success (with_reducible show wpAny _ _ (call (Value.builtin _) [Value.ref _, _]) _ _ _)); (first | walk1 | (dsimp only; walk1)); (try dsimp only)) | ((with_reducible show (Frag.In _ _ ∧ _)); walk1; (try dsimp only)) | ((with_reducible show ite _ _ _); walk1; (try dsimp only))))
          refine exF (first_spec (a := ab.1) (b := ab.2) (e := 12) G (fun b o hb q => F'.keep _ _ (Kg b o hb q)) (hA.less (e := 3) (by decide)).deeper (by exact F'.keep _ _ hT) hTH hbi.2.2.1 (by (first | lia | omega)) (fsts_ne (e := 12) hbi.2.1 hbi.2.2 (by (first | lia | omega))) ?_)
          intro h16 tk16 t16 k16
          have keep16 : ∀ b o, _ → h16.get? b = some o := fun b o q => k16 b o (by simp) q
          have F16 := F'.keeps keep16
          have N16 := N'.grown keep16
          rw [fsts_headD hbi.2.1 hbi.2.2 (by (first | lia | omega))]
          clear F' N' k16
          (repeat' (first | (k_unfold; (try dsimp only)) | ((with_reducible show wpAny _ _ _ _ _ _); (fail_if_success (with_reducible show wpAny _ _ (exec (Stmt.While _ _ _ _) _) _ _ _)); (fail_if_success (with_reducible show wpAny _ _ (exec (Stmt.For _ _ _ _ _) _) _ _ _)); (fail_if_success (with_reducible show wpAny _ _ (eval (Expr.ListComp _ _ _ _) _) _ _ _)); (fail_if_success (with_reducible show wpAny _ _ (exec (Stmt.Assign [_] (Expr.ListComp _ _ _ _) _) _) _ _ _)); (fail_if_success (with_reducible show wpAny _ _ (compareOp CmpOp.NotEq (Value.ref _) (Value.ref _)) _ _ _)); (fail_if_success (with_reducible show wpAny _ _ (compareOp CmpOp.Eq (Value.ref _) (Value.ref _)) _ _ _)); (fail_if_success (with_reducible show wpAny _ _ (call (Value.builtin _) [Value.ref _]) _ _ _)); (fail_if_success (with_reducible show wpAny _ _ (call (Value.type _) [Value.ref _]) _ _ _)); (fail_if_success (with_reducible show wpAny _ _ (subscriptTail _ _ _ _) _ _ _)); (fail_if_success (with_reducible show wpAny _ _ (call (Value.builtin _) [Value.ref _, _]) _ _ _)); (first | walk1 | (dsimp only; walk1)); (try dsimp only)) | ((with_reducible show (Frag.In _ _ ∧ _)); walk1; (try dsimp only)) | ((with_reducible show ite _ _ _); walk1; (try dsimp only))))
          rename_i Dq hq F17 N17 l1
          refine ⟨hq, _, (Dr, W.listOf (itemsOf yz) (yz.map Prod.fst).length) :: (r, W.listOf (itemsOf rz) c2) :: (L' + 1 + 1, oh2) :: (L' + 1, ob) :: (Dq, tup2 (nx ab.1 ab.2 12) ((0 : Int) + (i : Int)) t16 tv 0) :: T2, rfl, F17, ?_, ⟨off.1, off.2.1, off.2.2.1, off.2.2.2.1, ⟨Nat.ne_of_gt l1.1, Nat.ne_of_gt l1.2.1, Nat.ne_of_gt l1.2.2.1⟩, off.2.2.2.2⟩, trivial, (Dq, tup2 (nx ab.1 ab.2 12) ((0 : Int) + (i : Int)) t16 tv 0) :: T2, rfl, (fun p hp => List.Mem.tail _ (hsub p hp)), ?_⟩
          · intro p hp
            refine N17 p ?_
            (refine sub_at hp ?_; repeat' first | exact List.forall_mem_nil _ | (refine List.forall_mem_cons.mpr ⟨?_, ?_⟩) | (refine List.forall_mem_append.mpr ⟨?_, ?_⟩) | k_memK | (intro p hp; k_memK))
          · rw [List.range_succ, List.map_append, List.map_cons, List.map_nil]
            have e1 := bells_at hab
            have eA : ab.1 = bellA bs i := by rw [e1]
            have eB : ab.2 = bellB bs i := by rw [e1]
            rw [← eA, ← eB]
            have := (htm.mono fun p hp => List.mem_cons_of_mem (Dq, tup2 (nx ab.1 ab.2 12) ((0 : Int) + (i : Int)) t16 tv 0) hp).snoc (List.Mem.head _)
            rw [Int.zero_add] at this ⊢
            exact this
        · clear hR F15 N15
          rintro ys news ⟨T2, rfl, hsub, htm⟩
          have htm : TupsM T2 ys (keysOf bs.length fun n => nx (bellA bs n) (bellB bs n) 12) := htm
          intro D2 h18 tk18 F18 N18 off18
          have N18 : News g L' h18 ((D2, W.listOf ys.toArray ys.length) :: (Dr, W.listOf (itemsOf yz) (yz.map Prod.fst).length) :: (r, W.listOf (itemsOf rz) c2) :: (L' + 1 + 1, oh2) :: (L' + 1, ob) :: T2) := N18
          (repeat' (first | (k_unfold; (try dsimp only)) | ((with_reducible show wpAny _ _ _ _ _ _); (fail_if_success (with_reducible show wpAny _ _ (exec (Stmt.While _ _ _ _) _) _ _ _)); (fail_if_success (with_reducible show wpAny _ _ (exec (Stmt.For _ _ _ _ _) _) _ _ _)); (fail_if_success (with_reducible show wpAny _ _ (eval (Expr.ListComp _ _ _ _) _) _ _ _)); (fail_if_success (with_reducible show wpAny _ _ (exec (Stmt.Assign [_] (Expr.ListComp _ _ _ _) _) _) _ _ _)); (fail_if_success (with_reducible show wpAny _ _ (compareOp CmpOp.NotEq (Value.ref _) (Value.ref _)) _ _ _)); (fail_if_success (with_reducible show wpAny _ _ (compareOp CmpOp.Eq (Value.ref _) (Value.ref _)) _ _ _)); (fail_if_success (with_reducible show wpAny _ _ (call (Value.builtin _) [Value.ref _]) _ _ _)); (fail_if_success (with_reducible show wpAny _ _ (call (Value.type _) [Value.ref _]) _ _ _)); (fail_if_success (with_reducible show wpAny _ _ (subscriptTail _ _ _ _) _ _ _)); (fail_if_success (with_reducible show wpAny _ _ (call (Value.builtin _) [Value.ref _, _]) _ _ _)); (first | walk1 | (dsimp only; walk1)); (try dsimp only)) | ((with_reducible show (Frag.In _ _ ∧ _)); walk1; (try dsimp only)) | ((with_reducible show ite _ _ _); walk1; (try dsimp only))))
          rename Fr _ _ _ _ => F19
          rename News _ _ _ (_ :: _ :: _ :: _ :: _ :: _) => N19
          refine sorted_tups (T := T2) (ps := keysOf bs.length fun n => nx (bellA bs n) (bellB bs n) 12) F19 N19 (fun p hp => by simp [hp]) ⟨_, (N19 _ (List.Mem.head _)).1, rfl, _, rfl⟩ htm (by simp [keysOf]; (first | lia | omega)) (by simp [keysOf]; (first | lia | omega)) (keysOf_nodup _ _) fun D3 h20 c3 vs3 ps3 F20 N20 ht3 hp3 hs3 => ?_
          obtain rfl : ps3 = yz.map (·.2) := kle_eq hs3.le hys (hp3.trans hyz.symm)
          have N21 : News g L' h20 ((D3, W.listOf vs3.toArray c3) :: (Dr, W.listOf (itemsOf yz) (yz.map Prod.fst).length) :: (r, W.listOf (itemsOf rz) c2) :: (L' + 1 + 1, oh2) :: (L' + 1, ob) :: T2) := fun p hp => N20 p (by
            rcases List.mem_cons.mp hp with rfl | hp
            · exact List.Mem.head _
            · exact List.Mem.tail _ (List.Mem.tail _ hp))
          clear F19 N19 N20
          (repeat' (first | (k_unfold; (try dsimp only)) | ((with_reducible show wpAny _ _ _ _ _ _); (fail_if_success (with_reducible show wpAny _ _ (exec (Stmt.While _ _ _ _) _) _ _ _)); (fail_if_success (with_reducible show wpAny _ _ (exec (Stmt.For _ _ _ _ _) _) _ _ _)); (fail_if_success (with_reducible show wpAny _ _ (eval (Expr.ListComp _ _ _ _) _) _ _ _)); (fail_if_success (with_reducible show wpAny _ _ (exec (Stmt.Assign [_] (Expr.ListComp _ _ _ _) _) _) _ _ _)); (fail_if_success (with_reducible show wpAny _ _ (compareOp CmpOp.NotEq (Value.ref _) (Value.ref _)) _ _ _)); (fail_if_success (with_reducible show wpAny _ _ (compareOp CmpOp.Eq (Value.ref _) (Value.ref _)) _ _ _)); (fail_if_success (with_reducible show wpAny _ _ (call (Value.builtin _) [Value.ref _]) _ _ _)); (fail_if_success (with_reducible show wpAny _ _ (call (Value.type _) [Value.ref _]) _ _ _)); (fail_if_success (with_reducible show wpAny _ _ (subscriptTail _ _ _ _) _ _ _)); (fail_if_success (with_reducible show wpAny _ _ (call (Value.builtin _) [Value.ref _, _]) _ _ _)); (first | walk1 | (dsimp only; walk1)); (try dsimp only)) | ((with_reducible show (Frag.In _ _ ∧ _)); walk1; (try dsimp only)) | ((with_reducible show ite _ _ _); walk1; (try dsimp only))))
          refine ne_tups (xs := yz.map Prod.fst) (ys := vs3) (ps := yz.map (·.2)) (N21 (Dr, W.listOf (itemsOf yz) (yz.map Prod.fst).length) (by k_memK)).1 (N21 _ (List.Mem.head _)).1 ((tupsM_of hz2).at_ fun p hp => (N21 p (by simp [hsub p hp])).1) (ht3.at_ fun p hp => (N21 p (by k_memK)).1) (by have := hA.uni; simp only [units_deeper]; (first | lia | omega)) ?_
          (repeat' (first | (k_unfold; (try dsimp only)) | ((with_reducible show wpAny _ _ _ _ _ _); (fail_if_success (with_reducible show wpAny _ _ (exec (Stmt.While _ _ _ _) _) _ _ _)); (fail_if_success (with_reducible show wpAny _ _ (exec (Stmt.For _ _ _ _ _) _) _ _ _)); (fail_if_success (with_reducible show wpAny _ _ (eval (Expr.ListComp _ _ _ _) _) _ _ _)); (fail_if_success (with_reducible show wpAny _ _ (exec (Stmt.Assign [_] (Expr.ListComp _ _ _ _) _) _) _ _ _)); (fail_if_success (with_reducible show wpAny _ _ (compareOp CmpOp.NotEq (Value.ref _) (Value.ref _)) _ _ _)); (fail_if_success (with_reducible show wpAny _ _ (compareOp CmpOp.Eq (Value.ref _) (Value.ref _)) _ _ _)); (fail_if_success (with_reducible show wpAny _ _ (call (Value.builtin _) [Value.ref _]) _ _ _)); (fail_if_success (with_reducible show wpAny _ _ (call (Value.type _) [Value.ref _]) _ _ _)); (fail_if_success (with_reducible show wpAny _ _ (subscriptTail _ _ _ _) _ _ _)); (fail_if_success (with_reducible show wpAny _ _ (call (Value.builtin _) [Value.ref _, _]) _ _ _)); (first | walk1 | (dsimp only; walk1)); (try dsimp only)) | ((with_reducible show (Frag.In _ _ ∧ _)); walk1; (try dsimp only)) | ((with_reducible show ite _ _ _); walk1; (try dsimp only))))
          rename Fr _ _ _ _ => F22
          rename News _ _ _ (_ :: _ :: _ :: _ :: _ :: _) => N22
          refine LCg.ListComp_U (F₀ := F22) (by with_unfolding_all rfl) (by decide) (by rfl) (by decide) (by rfl) ?_
          (repeat' (first | (k_unfold; (try dsimp only)) | ((with_reducible show wpAny _ _ _ _ _ _); (fail_if_success (with_reducible show wpAny _ _ (exec (Stmt.While _ _ _ _) _) _ _ _)); (fail_if_success (with_reducible show wpAny _ _ (exec (Stmt.For _ _ _ _ _) _) _ _ _)); (fail_if_success (with_reducible show wpAny _ _ (eval (Expr.ListComp _ _ _ _) _) _ _ _)); (fail_if_success (with_reducible show wpAny _ _ (exec (Stmt.Assign [_] (Expr.ListComp _ _ _ _) _) _) _ _ _)); (fail_if_success (with_reducible show wpAny _ _ (compareOp CmpOp.NotEq (Value.ref _) (Value.ref _)) _ _ _)); (fail_if_success (with_reducible show wpAny _ _ (compareOp CmpOp.Eq (Value.ref _) (Value.ref _)) _ _ _)); (fail_if_success (with_reducible show wpAny _ _ (call (Value.builtin _) [Value.ref _]) _ _ _)); (fail_if_success (with_reducible show wpAny _ _ (call (Value.type _) [Value.ref _]) _ _ _)); (fail_if_success (with_reducible show wpAny _ _ (subscriptTail _ _ _ _) _ _ _)); (fail_if_success (with_reducible show wpAny _ _ (call (Value.builtin _) [Value.ref _, _]) _ _ _)); (first | walk1 | (dsimp only; walk1)); (try dsimp only)) | ((with_reducible show (Frag.In _ _ ∧ _)); walk1; (try dsimp only)) | ((with_reducible show ite _ _ _); walk1; (try dsimp only))))
          refine LCg.CompSrc.base (its := vs.toArray) (by exact hA.hh) F22 N22 ⟨_, hblg, rfl, _, rfl⟩ (by rw [es, sizeLine_eq]; (first | lia | omega)) fun g4 => ?_
          refine rest_gen (JCh4 D3 Dr r L' oh2 ob T2 vs3 c3 yz rz c2 bs) (n := vs.toArray.size) ?_ ?_ _ 0 [] _ (by (first | lia | omega)) ⟨[], by rw [List.append_nil], .nil⟩
          · clear F22 N22
            rintro i zs news hi ⟨Cl, rfl, hzs⟩ v I oI C oC Dc m₂ h tk E' hv hC hx F' N' off ne
            have hi2 : i < bs.length := by rw [← hvl]; simpa using hi
            obtain ⟨ab, hab⟩ : ∃ p, bs[i]? = some p := ⟨bs[i], by simp [hi2]⟩
            obtain ⟨Ti, ta, tb, nt, hvT, hT⟩ := htg.get i ab hab
            have hbi := bells_all ok ab (List.mem_of_getElem? hab)
            have hb0 : 0 < ab.2 := hbi.2.2.1
            obtain rfl : v = .ref Ti := by
              rw [List.getElem?_toArray, hvT] at hv
              exact (Option.some.inj hv).symm
            (repeat' (first | (k_unfold; (try dsimp only)) | ((with_reducible show wpAny _ _ _ _ _ _); (fail_if_success (with_reducible show wpAny _ _ (exec (Stmt.While _ _ _ _) _) _ _ _)); (fail_if_success (with_reducible show wpAny _ _ (exec (Stmt.For _ _ _ _ _) _) _ _ _)); (fail_if_success (with_reducible show wpAny _ _ (eval (Expr.ListComp _ _ _ _) _) _ _ _)); (fail_if_success (with_reducible show wpAny _ _ (exec (Stmt.Assign [_] (Expr.ListComp _ _ _ _) _) _) _ _ _)); (fail_if_success (with_reducible show wpAny _ _ (compareOp CmpOp.NotEq (Value.ref _) (Value.ref _)) _ _ _)); (fail_if_success (with_reducible show wpAny _ _ (compareOp CmpOp.Eq (Value.ref _) (Value.ref _)) _ _ _)); (fail_if_success (with_reducible show wpAny _ _ (call (Value.builtin _) [Value.ref _]) _ _ _)); (fail_if_success (with_reducible show wpAny _ _ (call (Value.type _) [Value.ref _]) _ _ _)); (fail_if_success (with_reducible show wpAny _ _ (subscriptTail _ _ _ _) _ _ _)); (fail_if_success (with_reducible show wpAny _ _ (call (Value.builtin _) [Value.ref _, _]) _ _ _)); (first | walk1 | (dsimp only; walk1)); (try dsimp only)) | ((with_reducible show (Frag.In _ _ ∧ _)); walk1; (try dsimp only)) | ((with_reducible show ite _ _ _); walk1; (try dsimp only))))
            refine tup_item0 (F'.keep _ _ hT) ?_
            (repeat' (first | (k_unfold; (try dsimp only)) | ((with_reducible show wpAny _ _ _ _ _ _); (fail_if_success (with_reducible show wpAny _ _ (exec (Stmt.While _ _ _ _) _) _ _ _)); (fail_if_success (with_reducible show wpAny _ _ (exec (Stmt.For _ _ _ _ _) _) _ _ _)); (fail_if_success (with_reducible show wpAny _ _ (eval (Expr.ListComp _ _ _ _) _) _ _ _)); (fail_if_success (with_reducible show wpAny _ _ (exec (Stmt.Assign [_] (Expr.ListComp _ _ _ _) _) _) _ _ _)); (fail_if_success (with_reducible show wpAny _ _ (compareOp CmpOp.NotEq (Value.ref _) (Value.ref _)) _ _ _)); (fail_if_success (with_reducible show wpAny _ _ (compareOp CmpOp.Eq (Value.ref _) (Value.ref _)) _ _ _)); (fail_if_success (with_reducible show wpAny _ _ (call (Value.builtin _) [Value.ref _]) _ _ _)); (fail_if_success (with_reducible show wpAny _ _ (call (Value.type _) [Value.ref _]) _ _ _)); (fail_if_success (with_reducible show wpAny _ _ (subscriptTail _ _ _ _) _ _ _)); (fail_if_success (with_reducible show wpAny _ _ (call (Value.builtin _) [Value.ref _, _]) _ _ _)); (first | walk1 | (dsimp only; walk1)); (try dsimp only)) | ((with_reducible show (Frag.In _ _ ∧ _)); walk1; (try dsimp only)) | ((with_reducible show ite _ _ _); walk1; (try dsimp only))))
            refine tup_item1 (F'.keep _ _ hT) ?_
            (repeat' (first | (k_unfold; (try dsimp only)) | ((with_reducible show wpAny _ _ _ _ _ _); (fail_if_success (with_reducible show wpAny _ _ (exec (Stmt.While _ _ _ _) _) _ _ _)); (fail_if_success (with_reducible show wpAny _ _ (exec (Stmt.For _ _ _ _ _) _) _ _ _)); (fail_if_success (with_reducible show wpAny _ _ (eval (Expr.ListComp _ _ _ _) _) _ _ _)); (fail_if_success (with_reducible show wpAny _ _ (exec (Stmt.Assign [_] (Expr.ListComp _ _ _ _) _) _) _ _ _)); (fail_if_success (with_reducible show wpAny _ _ (compareOp CmpOp.NotEq (Value.ref _) (Value.ref _)) _ _ _)); (fail_if_success (with_reducible show wpAny _ _ (compareOp CmpOp.Eq (Value.ref _) (Value.ref _)) _ _ _)); (fail_if_success (with_reducible show wpAny _ _ (call (Value.builtin _) [Value.ref _]) _ _ _)); (fail_if_success (with_reducible show wpAny _ _ (call (Value.type _) [Value.ref _]) _ _ _)); (fail_if_success (with_reducible show wpAny _ _ (subscriptTail _ _ _ _) _ _ _)); (fail_if_success (with_reducible show wpAny _ _ (call (Value.builtin _) [Value.ref _, _]) _ _ _)); (first | walk1 | (dsimp only; walk1)); (try dsimp only)) | ((with_reducible show (Frag.In _ _ ∧ _)); walk1; (try dsimp only)) | ((with_reducible show ite _ _ _); walk1; (try dsimp only))))
            rename IsRange _ _ _ _ _ _ _ _ => hR
            rename Fr _ _ _ _ => F23
            rename News _ _ _ (_ :: _ :: _ :: _ :: _ :: _ :: _ :: _ :: _) => N23
            rename_i hb tkb t1 u1 v1 kb
            have hrs := rsize12 (a := ab.1) (b := ab.2) hbi.1 hb0
            refine call_list_range (n := (Builtin.Range.rangeSize ab.1 12 ab.2).toNat) hA.hh hR (rsmall12 (by (first | lia | omega)) (by (first | lia | omega))) (by (first | lia | omega)) (by (first | lia | omega)) fun h24 tk24 acc c24 keep24 hnew hacc => ?_
            dsimp only at hnew keep24
            have hnew' : h24.get? hb.objs.size = some (W.listOf acc.toList.toArray c24) := hnew
            have hlt' : ∀ p ∈ (I, oI) :: (C, oC) :: (Dc, lst zs) :: (D3, W.listOf vs3.toArray c3) :: (Dr, W.listOf (itemsOf yz) (yz.map Prod.fst).length) :: (r, W.listOf (itemsOf rz) c2) :: (L' + 1 + 1, oh2) :: (L' + 1, ob) :: (T2 ++ Cl), p.1 < hb.objs.size := fun p hp => Heap.lt_size (N23 p hp).1
            show CompEnd _ _ _ _ _ _ _ _ _ _ _ _ _ _
            refine ⟨h24, tk24, (D3, W.listOf vs3.toArray c3) :: (Dr, W.listOf (itemsOf yz) (yz.map Prod.fst).length) :: (r, W.listOf (itemsOf rz) c2) :: (L' + 1 + 1, oh2) :: (L' + 1, ob) :: (T2 ++ ((hb.objs.size, W.listOf acc.toList.toArray c24) :: Cl)), rfl, F23.keeps keep24, ?_, ?_, .inl ⟨_, hblg, rfl, _, rfl⟩, (hb.objs.size, W.listOf acc.toList.toArray c24) :: Cl, rfl, ?_⟩
            · intro p hp
              have hp2 : p = (hb.objs.size, W.listOf acc.toList.toArray c24) ∨ p ∈ (I, oI) :: (C, oC) :: (Dc, lst zs) :: (D3, W.listOf vs3.toArray c3) :: (Dr, W.listOf (itemsOf yz) (yz.map Prod.fst).length) :: (r, W.listOf (itemsOf rz) c2) :: (L' + 1 + 1, oh2) :: (L' + 1, ob) :: (T2 ++ Cl) := List.mem_cons.mp (by (refine sub_at hp ?_; repeat' first | exact List.forall_mem_nil _ | (refine List.forall_mem_cons.mpr ⟨?_, ?_⟩) | (refine List.forall_mem_append.mpr ⟨?_, ?_⟩) | k_memK | (intro p hp; k_memK)))
              rcases hp2 with rfl | hp2
              · exact ⟨hnew', fresh_ne F23, fresh_none F23⟩
              · exact ⟨keep24 _ _ (N23 p hp2).1, (N23 p hp2).2⟩
            · have offm := off.mem
              refine Off3.of fun p hp => ?_
              have hp2 : p = (hb.objs.size, W.listOf acc.toList.toArray c24) ∨ p ∈ (D3, W.listOf vs3.toArray c3) :: (Dr, W.listOf (itemsOf yz) (yz.map Prod.fst).length) :: (r, W.listOf (itemsOf rz) c2) :: (L' + 1 + 1, oh2) :: (L' + 1, ob) :: (T2 ++ Cl) := List.mem_cons.mp (by (refine sub_at hp ?_; repeat' first | exact List.forall_mem_nil _ | (refine List.forall_mem_cons.mpr ⟨?_, ?_⟩) | (refine List.forall_mem_append.mpr ⟨?_, ?_⟩) | k_memK | (intro p hp; k_memK)))
              rcases hp2 with rfl | hp2
              · exact ⟨Nat.ne_of_gt (hlt' (I, oI) (by k_memK)), Nat.ne_of_gt (hlt' (C, oC) (by k_memK)), Nat.ne_of_gt (hlt' (Dc, lst zs) (by k_memK))⟩
              · exact offm p hp2
            · have ek : (css12 bs).take (i + 1) = (css12 bs).take i ++ [r12 ab.1 ab.2] := map_take _ hab
              rw [ek]
              exact hzs.snoc (ints_r12 hacc)
          · clear F22 N22
            rintro zs news ⟨Cl, rfl, hzs⟩
            rw [List.take_of_length_le (by rw [List.size_toArray, hvl]; simp [css12])] at hzs
            intro D4 h26 tk26 F26 N26 off26
            have N26 : News g L' h26 ((D4, W.listOf zs.toArray zs.length) :: (D3, W.listOf vs3.toArray c3) :: (Dr, W.listOf (itemsOf yz) (yz.map Prod.fst).length) :: (r, W.listOf (itemsOf rz) c2) :: (L' + 1 + 1, oh2) :: (L' + 1, ob) :: (T2 ++ Cl)) := N26
            (repeat' (first | (k_unfold; (try dsimp only)) | ((with_reducible show wpAny _ _ _ _ _ _); (fail_if_success (with_reducible show wpAny _ _ (exec (Stmt.While _ _ _ _) _) _ _ _)); (fail_if_success (with_reducible show wpAny _ _ (exec (Stmt.For _ _ _ _ _) _) _ _ _)); (fail_if_success (with_reducible show wpAny _ _ (eval (Expr.ListComp _ _ _ _) _) _ _ _)); (fail_if_success (with_reducible show wpAny _ _ (exec (Stmt.Assign [_] (Expr.ListComp _ _ _ _) _) _) _ _ _)); (fail_if_success (with_reducible show wpAny _ _ (compareOp CmpOp.NotEq (Value.ref _) (Value.ref _)) _ _ _)); (fail_if_success (with_reducible show wpAny _ _ (compareOp CmpOp.Eq (Value.ref _) (Value.ref _)) _ _ _)); (fail_if_success (with_reducible show wpAny _ _ (call (Value.builtin _) [Value.ref _]) _ _ _)); (fail_if_success (with_reducible show wpAny _ _ (call (Value.type _) [Value.ref _]) _ _ _)); (fail_if_success (with_reducible show wpAny _ _ (subscriptTail _ _ _ _) _ _ _)); (fail_if_success (with_reducible show wpAny _ _ (call (Value.builtin _) [Value.ref _, _]) _ _ _)); (first | walk1 | (dsimp only; walk1)); (try dsimp only)) | ((with_reducible show (Frag.In _ _ ∧ _)); walk1; (try dsimp only)) | ((with_reducible show ite _ _ _); walk1; (try dsimp only))))
            rename Fr _ _ _ _ => F27
            rename News _ _ _ (_ :: _ :: _ :: _ :: _ :: _ :: _) => N27
            refine rings_spec (css := css12 bs) G (fun b o hb q => F27.keep _ _ (Kg b o hb q)) (hA.less (e := 13) (by decide)).deeper (hzs.chains (N27 _ (List.Mem.head _)).1 fun p hp => (N27 p (by k_memK)).1) (by simp [css12]; (first | lia | omega)) ?_
            intro h28 tk28 D5 ws cw k28 hD0 hD5 tw
            have keep28 : ∀ b o, _ → h28.get? b = some o := fun b o q => k28 b o (by simp) q
            have F28 := F27.keeps keep28
            have N28 := N27.grown keep28
            rw [← hps] at tw
            clear F27 N27
            refine eq_tups (xs := rz.map Prod.fst) (ys := ws) (ps := rz.map (·.2)) (N28 (r, W.listOf (itemsOf rz) c2) (by k_memK)).1 hD5 ((tupsM_of hrz).at_ fun p hp => (N28 p (by simp [hsub p hp])).1) tw (by have := hA.uni; simp only [units_deeper]; (first | lia | omega)) ?_
            (repeat' (first | (k_unfold; (try dsimp only)) | ((with_reducible show wpAny _ _ _ _ _ _); (fail_if_success (with_reducible show wpAny _ _ (exec (Stmt.While _ _ _ _) _) _ _ _)); (fail_if_success (with_reducible show wpAny _ _ (exec (Stmt.For _ _ _ _ _) _) _ _ _)); (fail_if_success (with_reducible show wpAny _ _ (eval (Expr.ListComp _ _ _ _) _) _ _ _)); (fail_if_success (with_reducible show wpAny _ _ (exec (Stmt.Assign [_] (Expr.ListComp _ _ _ _) _) _) _ _ _)); (fail_if_success (with_reducible show wpAny _ _ (compareOp CmpOp.NotEq (Value.ref _) (Value.ref _)) _ _ _)); (fail_if_success (with_reducible show wpAny _ _ (compareOp CmpOp.Eq (Value.ref _) (Value.ref _)) _ _ _)); (fail_if_success (with_reducible show wpAny _ _ (call (Value.builtin _) [Value.ref _]) _ _ _)); (fail_if_success (with_reducible show wpAny _ _ (call (Value.type _) [Value.ref _]) _ _ _)); (fail_if_success (with_reducible show wpAny _ _ (subscriptTail _ _ _ _) _ _ _)); (fail_if_success (with_reducible show wpAny _ _ (call (Value.builtin _) [Value.ref _, _]) _ _ _)); (first | walk1 | (dsimp only; walk1)); (try dsimp only)) | ((with_reducible show (Frag.In _ _ ∧ _)); walk1; (try dsimp only)) | ((with_reducible show ite _ _ _); walk1; (try dsimp only))))
            exact ret _ _ (kpF F28)
end Mine

namespace Mine
open PySem PySem.W PyProof.Rows PySem.Calls PyProof.Rows.LCg PyProof.Rows.LCt
set_option maxRecDepth 100000
set_option linter.unusedVariables false
local macro_rules | `(tactic| k_memK) => `(tactic| first | (exact List.Mem.head _) | (refine List.mem_append_left _ ?_; k_memK) | (refine List.mem_append_right _ ?_; k_memK) | (refine List.Mem.tail _ ?_; k_memK) | assumption)
noncomputable def bellOf (x : Int) : Int × Int := (x.fmod 10, (x.fdiv 10).fmod 6 + 1)

theorem TupsM.inT {T : List (Addr × Obj)} {vs : List Value} {ps : List Key} (x : TupsM T vs ps) {a : Addr} (h : .ref a ∈ vs) : ∃ o, (a, o) ∈ T := by
  induction x with
  | nil => cases h
  | cons e _ ih =>
    rcases List.mem_cons.mp h with q | q
    · injection q with q; subst q; exact ⟨_, e⟩
    · exact ih q
theorem bellOf_ok (xs : List Int) : BellsOk (xs.map bellOf) := fun n hn => by
  have hn2 : n < xs.length := by simpa using hn
  have e1 : (xs.map bellOf).getD n (0, 1) = bellOf xs[n] := by simp [hn2]
  unfold bellA bellB
  rw [e1]
  unfold bellOf
  have h1 := Int.fmod_nonneg_of_pos xs[n] (show (0 : Int) < 10 by decide)
  have h2 := Int.fmod_lt_of_pos xs[n] (show (0 : Int) < 10 by decide)
  have h3 := Int.fmod_nonneg_of_pos (xs[n].fdiv 10) (show (0 : Int) < 6 by decide)
  have h4 := Int.fmod_lt_of_pos (xs[n].fdiv 10) (show (0 : Int) < 6 by decide)
  dsimp only
  omega

theorem arnd_top : Arnd callerA 27 := ⟨rfl, by decide, by decide⟩
theorem bellsAt_of {g h : Heap} {L bl : Addr} {ys : List Value} {n : Nat} {TT R : List (Addr × Obj)} {bs : List Key} (htm : TupsM TT ys bs) (N : News g L h ((bl, W.listOf ys.toArray n) :: (R ++ TT))) : BellsAt h bl bs ∧ BellsOff g h bl := by
  have hb := (N _ (List.Mem.head _)).1
  dsimp only at hb
  refine ⟨⟨ys, n, hb, htm.at_ fun p hp => (N p (by k_memK)).1⟩, fun vs c q T hT => ?_⟩
  rw [hb] at q
  have e := congrArg Obj.data (Option.some.inj q)
  injection e with e1 e2
  rw [← e1] at hT
  obtain ⟨o, ho⟩ := htm.inT (a := T) (by simpa using hT)
  exact (N (T, o) (by simp [ho])).2.2

set_option maxHeartbeats 1000000 in
theorem fin_holds : PySem.Challenge.rw_in0189_01.Holds := hd (by
  k_go0
  all_goals try k_fold
  rename Fr _ _ _ _ => F0
  rename News _ _ _ _ => N0
  rename IntsAre _ _ => hI
  rename Shared.gens _ = _ => hgens
  rename Top _ _ _ _ _ _ => T0
  rename Frag.In _ _ => X0
  have G : Gnd _ _ := ⟨X0, _, _, _, _, _, T0⟩
  have hlen := hI.length
  obtain ⟨os, hos, ros⟩ := lifted
  (repeat' (first | (k_unfold; (try dsimp only)) | ((with_reducible show wpAny _ _ _ _ _ _); (fail_if_success (with_reducible show wpAny _ _ (exec (Stmt.While _ _ _ _) _) _ _ _)); (fail_if_success (with_reducible show wpAny _ _ (exec (Stmt.For _ _ _ _ _) _) _ _ _)); (fail_if_success (with_reducible show wpAny _ _ (eval (Expr.ListComp _ _ _ _) _) _ _ _)); (fail_if_success (with_reducible show wpAny _ _ (exec (Stmt.Assign [_] (Expr.ListComp _ _ _ _) _) _) _ _ _)); (fail_if_success (with_reducible show wpAny _ _ (subscriptTail _ _ _ _) _ _ _)); (fail_if_success (with_reducible show wpAny _ _ (call (Value.ref _) _) _ _ _)); (fail_if_success (with_reducible show wpAny _ _ (call (Value.builtin _) [Value.ref _]) _ _ _)); (fail_if_success (with_reducible show wpAny _ _ (call (Value.type _) [Value.ref _]) _ _ _)); (fail_if_success (with_reducible show wpAny _ _ (binaryOp _ (Value.ref _) (Value.ref _)) _ _ _)); (first | walk1 | (dsimp only; walk1)); (try dsimp only)) | ((with_reducible show (Frag.In _ _ ∧ _)); walk1; (try dsimp only)) | ((with_reducible show ite _ _ _); walk1; (try dsimp only))))
  refine' kmk_slice_ints (s := ⟨_, _, _, _, _⟩) (lo := none) (hi := some 5) F0 N0 ⟨os, F0.keep _ _ hos, ros⟩ ?p1 ?p2 hI (kmk_upto hI (y := 5) (by decide)) rfl ?k1 ?k2 ?k3 ?k4
  case k2 => with_unfolding_all rfl
  case k3 => intro _; with_unfolding_all rfl
  case k4 => rw [List.size_toArray, sizeLine_eq]; omega
  case p1 => kmk_part
  case p2 => kmk_part
  intro Dd ws h1 F1 N1 l1 hws _ _
  clear F0 N0
  (repeat' (first | (k_unfold; (try dsimp only)) | ((with_reducible show wpAny _ _ _ _ _ _); (fail_if_success (with_reducible show wpAny _ _ (exec (Stmt.While _ _ _ _) _) _ _ _)); (fail_if_success (with_reducible show wpAny _ _ (exec (Stmt.For _ _ _ _ _) _) _ _ _)); (fail_if_success (with_reducible show wpAny _ _ (eval (Expr.ListComp _ _ _ _) _) _ _ _)); (fail_if_success (with_reducible show wpAny _ _ (exec (Stmt.Assign [_] (Expr.ListComp _ _ _ _) _) _) _ _ _)); (fail_if_success (with_reducible show wpAny _ _ (subscriptTail _ _ _ _) _ _ _)); (fail_if_success (with_reducible show wpAny _ _ (call (Value.ref _) _) _ _ _)); (fail_if_success (with_reducible show wpAny _ _ (call (Value.builtin _) [Value.ref _]) _ _ _)); (fail_if_success (with_reducible show wpAny _ _ (call (Value.type _) [Value.ref _]) _ _ _)); (fail_if_success (with_reducible show wpAny _ _ (binaryOp _ (Value.ref _) (Value.ref _)) _ _ _)); (first | walk1 | (dsimp only; walk1)); (try dsimp only)) | ((with_reducible show (Frag.In _ _ ∧ _)); walk1; (try dsimp only)) | ((with_reducible show ite _ _ _); walk1; (try dsimp only))))
  rename Fr _ _ _ _ => F2
  rename News _ _ _ [_, _] => N2
  first
    | refine LCg.Assign_ListComp_U (F₀ := F2) (by rfl) (by with_unfolding_all rfl) (by with_unfolding_all rfl) (by decide) (by rfl) (by decide) (by rfl) (by with_unfolding_all rfl) (by rfl) ?_
    | refine wpAny_Assign_Name (LCg.ListComp_U (F₀ := F2) (by with_unfolding_all rfl) (by decide) (by rfl) (by decide) (by rfl) ?_)
  (repeat' (first | (k_unfold; (try dsimp only)) | ((with_reducible show wpAny _ _ _ _ _ _); (fail_if_success (with_reducible show wpAny _ _ (exec (Stmt.While _ _ _ _) _) _ _ _)); (fail_if_success (with_reducible show wpAny _ _ (exec (Stmt.For _ _ _ _ _) _) _ _ _)); (fail_if_success (with_reducible show wpAny _ _ (eval (Expr.ListComp _ _ _ _) _) _ _ _)); (fail_if_success (with_reducible show wpAny _ _ (exec (Stmt.Assign [_] (Expr.ListComp _ _ _ _) _) _) _ _ _)); (fail_if_success (with_reducible show wpAny _ _ (subscriptTail _ _ _ _) _ _ _)); (fail_if_success (with_reducible show wpAny _ _ (call (Value.ref _) _) _ _ _)); (fail_if_success (with_reducible show wpAny _ _ (call (Value.builtin _) [Value.ref _]) _ _ _)); (fail_if_success (with_reducible show wpAny _ _ (call (Value.type _) [Value.ref _]) _ _ _)); (fail_if_success (with_reducible show wpAny _ _ (binaryOp _ (Value.ref _) (Value.ref _)) _ _ _)); (first | walk1 | (dsimp only; walk1)); (try dsimp only)) | ((with_reducible show (Frag.In _ _ ∧ _)); walk1; (try dsimp only)) | ((with_reducible show ite _ _ _); walk1; (try dsimp only))))
  rename Fr _ _ _ _ => F3
  rename News _ _ _ [_, _, _] => N3
  rename_i lA hb lA1
  obtain ⟨dr, hdr, hdl⟩ : ∃ dr : List Int, IntsAre ws dr ∧ dr.length ≤ 5 := ⟨_, hws, by rw [List.length_take]; exact Nat.min_le_left _ _⟩
  clear hws
  refine add_arrays_ints (ns := [20, 41, 35]) (ms := dr) F3 N3 ⟨_, (N3 _ (List.Mem.head _)).1, rfl, _, rfl⟩ ⟨_, (N3 (Dd, W.listOf ws.toArray 0) (by k_memK)).1, rfl, _, rfl⟩ (.cons _ _ (.cons _ _ (.cons _ _ .nil))) hdr ?_ (by rw [sizeLine_eq]; simp; omega)
  intro h4 F4 N4 hcat
  have hcl := hcat.length
  clear F3 N3
  have N4 : News _ _ h4 ((hb.objs.size, W.listOf ([Value.int 20 tk, Value.int 41 (tk + 1), Value.int 35 (tk + 1 + 1)] ++ ws).toArray 0) :: (lA, W.listOf #[Value.int 20 tk, Value.int 41 (tk + 1), Value.int 35 (tk + 1 + 1)] 0) :: (Dd, W.listOf ws.toArray 0) :: (50, tabObj #[]) :: []) := N4
  have hcat : IntsAre ([Value.int 20 tk, Value.int 41 (tk + 1), Value.int 35 (tk + 1 + 1)] ++ ws) (20 :: 41 :: 35 :: dr) := hcat
  revert N4 hcat
  generalize [Value.int 20 tk, Value.int 41 (tk + 1), Value.int 35 (tk + 1 + 1)] ++ ws = xs
  intro N4 hcat
  have hxl : xs.length = (20 :: 41 :: 35 :: dr).length := hcat.length
  have hxl2 : xs.length ≤ 8 := by rw [hxl]; simp; omega
  refine LCg.CompSrc.ledger (ax := hb.objs.size) (its := xs.toArray) (k := 0) (by rfl) F4 N4 (List.Mem.head _) (by rw [List.size_toArray, sizeLine_eq]; omega) fun g' => ?_
  refine rest_gen (fun i ys news => ∃ TT, news = ((hb.objs.size, W.listOf xs.toArray 0) :: (lA, W.listOf #[Value.int 20 tk, Value.int 41 (tk + 1), Value.int 35 (tk + 1 + 1)] 0) :: (Dd, W.listOf ws.toArray 0) :: (50, tabObj #[]) :: TT) ∧ TupT TT ∧ TupsM TT ys (((20 :: 41 :: 35 :: dr).take i).map bellOf)) (n := xs.toArray.size) ?_ ?_ _ 0 [] _ (by omega) ⟨[], rfl, (fun p hp => by cases hp), .nil⟩
  · clear F4 N4
    rintro i ys news hi ⟨TT, rfl, hTT, htm⟩ v I oI C oC Dx m₂ h tk0 E' hv hC hx F' N' off ne
    have hi2 : i < (20 :: 41 :: 35 :: dr).length := by rw [← hxl]; simpa using hi
    obtain ⟨tv, htv⟩ := hcat.get i (20 :: 41 :: 35 :: dr)[i] (by simp [hi2])
    obtain ⟨x, hxe⟩ : ∃ x, x = (20 :: 41 :: 35 :: dr)[i] := ⟨_, rfl⟩
    rw [← hxe] at htv
    have hxg : (20 :: 41 :: 35 :: dr)[i]? = some x := by rw [List.getElem?_eq_getElem hi2, hxe]
    obtain rfl : v = .int x tv := by
      rw [List.getElem?_toArray, htv] at hv
      exact (Option.some.inj hv).symm
    (repeat' (first | (k_unfold; (try dsimp only)) | ((with_reducible show wpAny _ _ _ _ _ _); (fail_if_success (with_reducible show wpAny _ _ (exec (Stmt.While _ _ _ _) _) _ _ _)); (fail_if_success (with_reducible show wpAny _ _ (exec (Stmt.For _ _ _ _ _) _) _ _ _)); (fail_if_success (with_reducible show wpAny _ _ (eval (Expr.ListComp _ _ _ _) _) _ _ _)); (fail_if_success (with_reducible show wpAny _ _ (exec (Stmt.Assign [_] (Expr.ListComp _ _ _ _) _) _) _ _ _)); (fail_if_success (with_reducible show wpAny _ _ (subscriptTail _ _ _ _) _ _ _)); (fail_if_success (with_reducible show wpAny _ _ (call (Value.ref _) _) _ _ _)); (fail_if_success (with_reducible show wpAny _ _ (call (Value.builtin _) [Value.ref _]) _ _ _)); (fail_if_success (with_reducible show wpAny _ _ (call (Value.type _) [Value.ref _]) _ _ _)); (fail_if_success (with_reducible show wpAny _ _ (binaryOp _ (Value.ref _) (Value.ref _)) _ _ _)); (first | walk1 | (dsimp only; walk1)); (try dsimp only)) | ((with_reducible show (Frag.In _ _ ∧ _)); walk1; (try dsimp only)) | ((with_reducible show ite _ _ _); walk1; (try dsimp only))))
    rename_i Dq hq F5 N5 lq
    refine ⟨hq, _, (hb.objs.size, W.listOf xs.toArray 0) :: (lA, W.listOf #[Value.int 20 tk, Value.int 41 (tk + 1), Value.int 35 (tk + 1 + 1)] 0) :: (Dd, W.listOf ws.toArray 0) :: (50, tabObj #[]) :: (Dq, tup2 (x.fmod 10) ((x.fdiv 10).fmod 6 + 1) (tk0 + 1) (tk0 + 1 + 1 + 1 + 1 + 1 + 1 + 1) 0) :: TT, rfl, F5, ?_, ⟨off.1, off.2.1, off.2.2.1, off.2.2.2.1, ⟨Nat.ne_of_gt lq.1, Nat.ne_of_gt lq.2.1, Nat.ne_of_gt lq.2.2.1⟩, off.2.2.2.2⟩, .inr ⟨_, List.Mem.head _, rfl, _, rfl⟩, (Dq, tup2 (x.fmod 10) ((x.fdiv 10).fmod 6 + 1) (tk0 + 1) (tk0 + 1 + 1 + 1 + 1 + 1 + 1 + 1) 0) :: TT, rfl, hTT.cons, ?_⟩
    · intro p hp
      refine N5 p ?_
      (refine sub_at hp ?_; repeat' first | exact List.forall_mem_nil _ | (refine List.forall_mem_cons.mpr ⟨?_, ?_⟩) | (refine List.forall_mem_append.mpr ⟨?_, ?_⟩) | k_memK | (intro p hp; k_memK))
    · have et : (20 :: 41 :: 35 :: dr).take (i + 1) = (20 :: 41 :: 35 :: dr).take i ++ [x] := by rw [List.take_add_one, hxg]; rfl
      rw [et, List.map_append]
      exact (htm.mono fun p hp => List.mem_cons_of_mem _ hp).snoc (List.Mem.head _)
  · clear F4 N4
    rintro ys news ⟨TT, rfl, hTT, htm⟩
    rw [List.take_of_length_le (by rw [List.size_toArray, hxl]; exact Nat.le_refl _)] at htm
    intro bl h6 tk6 F6 N6 off6
    have N6 : News _ _ h6 ((bl, W.listOf ys.toArray ys.length) :: (hb.objs.size, W.listOf xs.toArray 0) :: (lA, W.listOf #[Value.int 20 tk, Value.int 41 (tk + 1), Value.int 35 (tk + 1 + 1)] 0) :: (Dd, W.listOf ws.toArray 0) :: (50, tabObj #[]) :: TT) := N6
    (repeat' (first | (k_unfold; (try dsimp only)) | ((with_reducible show wpAny _ _ _ _ _ _); (fail_if_success (with_reducible show wpAny _ _ (exec (Stmt.While _ _ _ _) _) _ _ _)); (fail_if_success (with_reducible show wpAny _ _ (exec (Stmt.For _ _ _ _ _) _) _ _ _)); (fail_if_success (with_reducible show wpAny _ _ (eval (Expr.ListComp _ _ _ _) _) _ _ _)); (fail_if_success (with_reducible show wpAny _ _ (exec (Stmt.Assign [_] (Expr.ListComp _ _ _ _) _) _) _ _ _)); (fail_if_success (with_reducible show wpAny _ _ (subscriptTail _ _ _ _) _ _ _)); (fail_if_success (with_reducible show wpAny _ _ (call (Value.ref _) _) _ _ _)); (fail_if_success (with_reducible show wpAny _ _ (call (Value.builtin _) [Value.ref _]) _ _ _)); (fail_if_success (with_reducible show wpAny _ _ (call (Value.type _) [Value.ref _]) _ _ _)); (fail_if_success (with_reducible show wpAny _ _ (binaryOp _ (Value.ref _) (Value.ref _)) _ _ _)); (first | walk1 | (dsimp only; walk1)); (try dsimp only)) | ((with_reducible show (Frag.In _ _ ∧ _)); walk1; (try dsimp only)) | ((with_reducible show ite _ _ _); walk1; (try dsimp only))))
    rename Fr _ _ _ _ => F7
    rename News _ _ _ (_ :: _ :: _ :: _ :: _ :: _) => N7
    refine sumK (vs := ws) (ns := dr) (by rfl) F7 N7 ⟨_, (N7 (Dd, W.listOf ws.toArray 0) (by k_memK)).1, rfl, _, rfl⟩ hdr fun h8 tk8 t8 F8 N8 => ?_
    clear F7 N7
    (repeat' (first | (k_unfold; (try dsimp only)) | ((with_reducible show wpAny _ _ _ _ _ _); (fail_if_success (with_reducible show wpAny _ _ (exec (Stmt.While _ _ _ _) _) _ _ _)); (fail_if_success (with_reducible show wpAny _ _ (exec (Stmt.For _ _ _ _ _) _) _ _ _)); (fail_if_success (with_reducible show wpAny _ _ (eval (Expr.ListComp _ _ _ _) _) _ _ _)); (fail_if_success (with_reducible show wpAny _ _ (exec (Stmt.Assign [_] (Expr.ListComp _ _ _ _) _) _) _ _ _)); (fail_if_success (with_reducible show wpAny _ _ (subscriptTail _ _ _ _) _ _ _)); (fail_if_success (with_reducible show wpAny _ _ (call (Value.ref _) _) _ _ _)); (fail_if_success (with_reducible show wpAny _ _ (call (Value.builtin _) [Value.ref _]) _ _ _)); (fail_if_success (with_reducible show wpAny _ _ (call (Value.type _) [Value.ref _]) _ _ _)); (fail_if_success (with_reducible show wpAny _ _ (binaryOp _ (Value.ref _) (Value.ref _)) _ _ _)); (first | walk1 | (dsimp only; walk1)); (try dsimp only)) | ((with_reducible show (Frag.In _ _ ∧ _)); walk1; (try dsimp only)) | ((with_reducible show ite _ _ _); walk1; (try dsimp only))))
    rename Fr _ _ _ _ => F9
    rename News _ _ _ (_ :: _ :: _ :: _ :: _ :: _) => N9
    have N10 : News _ _ _ ((bl, W.listOf ys.toArray ys.length) :: ([(50, tabObj #[])] ++ TT)) := fun p hp => N9 p (by
      simp only [List.mem_cons, List.mem_append, List.not_mem_nil, or_false] at hp ⊢
      rcases hp with h | h | h
      · exact .inl h
      · exact .inr (.inr (.inr (.inr (.inl h))))
      · exact .inr (.inr (.inr (.inr (.inr h)))))
    obtain ⟨bs, hbs⟩ : ∃ bs, bs = (20 :: 41 :: 35 :: dr).map bellOf := ⟨_, rfl⟩
    rw [← hbs] at htm
    have hbn : bs.length = dr.length + 3 := by rw [hbs]; simp
    have okb : BellsOk bs := by rw [hbs]; exact bellOf_ok _
    have hB := bellsAt_of htm N10
    clear N9
    refine exF (heap_spec (bs := bs) G (fun b o _ q => F9.keep _ _ q) (arnd_top.less (e := 26) (by decide)).deeper hB.1 hB.2 (by omega) (by omega) okb ?_)
    intro h11 tk11 k11
    have keep11 : ∀ b o, _ → h11.get? b = some o := fun b o q => k11 b o (by simp) q
    have F11 := F9.keeps keep11
    have N11 := N10.grown keep11
    clear F9 N10 hB
    (repeat' (first | (k_unfold; (try dsimp only)) | ((with_reducible show wpAny _ _ _ _ _ _); (fail_if_success (with_reducible show wpAny _ _ (exec (Stmt.While _ _ _ _) _) _ _ _)); (fail_if_success (with_reducible show wpAny _ _ (exec (Stmt.For _ _ _ _ _) _) _ _ _)); (fail_if_success (with_reducible show wpAny _ _ (eval (Expr.ListComp _ _ _ _) _) _ _ _)); (fail_if_success (with_reducible show wpAny _ _ (exec (Stmt.Assign [_] (Expr.ListComp _ _ _ _) _) _) _ _ _)); (fail_if_success (with_reducible show wpAny _ _ (subscriptTail _ _ _ _) _ _ _)); (fail_if_success (with_reducible show wpAny _ _ (call (Value.ref _) _) _ _ _)); (fail_if_success (with_reducible show wpAny _ _ (call (Value.builtin _) [Value.ref _]) _ _ _)); (fail_if_success (with_reducible show wpAny _ _ (call (Value.type _) [Value.ref _]) _ _ _)); (fail_if_success (with_reducible show wpAny _ _ (binaryOp _ (Value.ref _) (Value.ref _)) _ _ _)); (first | walk1 | (dsimp only; walk1)); (try dsimp only)) | ((with_reducible show (Frag.In _ _ ∧ _)); walk1; (try dsimp only)) | ((with_reducible show ite _ _ _); walk1; (try dsimp only))))
    have n50 := N11 (50, tabObj #[]) (by k_memK)
    have hT50 := hTT.off (fun p hp => N11 p (by k_memK)) n50.1 (.inl (by intro q; cases q))
    have hbl50 : bl ≠ 50 := off6.2.2.2.1.symm
    have hB2 := bellsAt_of htm N11
    refine exF (calendar_spec (bs := bs) (e := 12) G (fun b o _ q => F11.keep _ _ q) (arnd_top.less (e := 26) (by decide)).deeper codeHd hB2.1 hB2.2 (by omega) okb (by omega) n50.1 n50.2.2 ?_)
    intro h12 tk12 k12 _ h50'
    have h50f := h50' rfl
    have F12 := fr_kp F11 k12 (by simpa using n50.2.1.symm) (fun a ha => by rw [List.mem_singleton.mp ha]; exact n50.2.2)
    have N12 : News _ _ h12 ((bl, W.listOf ys.toArray ys.length) :: ([(50, tabObj #[])] ++ TT)) := fun p hp => by
      rcases List.mem_cons.mp hp with rfl | hp
      · have n := N11 _ (List.Mem.head _)
        exact ⟨k12 _ _ (by simpa using hbl50) n.1, n.2⟩
      rcases List.mem_cons.mp hp with rfl | hp
      · exact ⟨h50f, n50.2⟩
      · have n := N11 p (by simp [show p ∈ TT from hp])
        exact ⟨k12 _ _ (by simpa using hT50 p hp) n.1, n.2⟩
    clear F11 N11 hB2 n50 hT50
    (repeat' (first | (k_unfold; (try dsimp only)) | ((with_reducible show wpAny _ _ _ _ _ _); (fail_if_success (with_reducible show wpAny _ _ (exec (Stmt.While _ _ _ _) _) _ _ _)); (fail_if_success (with_reducible show wpAny _ _ (exec (Stmt.For _ _ _ _ _) _) _ _ _)); (fail_if_success (with_reducible show wpAny _ _ (eval (Expr.ListComp _ _ _ _) _) _ _ _)); (fail_if_success (with_reducible show wpAny _ _ (exec (Stmt.Assign [_] (Expr.ListComp _ _ _ _) _) _) _ _ _)); (fail_if_success (with_reducible show wpAny _ _ (subscriptTail _ _ _ _) _ _ _)); (fail_if_success (with_reducible show wpAny _ _ (call (Value.ref _) _) _ _ _)); (fail_if_success (with_reducible show wpAny _ _ (call (Value.builtin _) [Value.ref _]) _ _ _)); (fail_if_success (with_reducible show wpAny _ _ (call (Value.type _) [Value.ref _]) _ _ _)); (fail_if_success (with_reducible show wpAny _ _ (binaryOp _ (Value.ref _) (Value.ref _)) _ _ _)); (first | walk1 | (dsimp only; walk1)); (try dsimp only)) | ((with_reducible show (Frag.In _ _ ∧ _)); walk1; (try dsimp only)) | ((with_reducible show ite _ _ _); walk1; (try dsimp only))))
    have hB3 := bellsAt_of htm N12
    have n50 := N12 (50, tabObj #[]) (by k_memK)
    have he1 := Int.fmod_nonneg_of_pos dr.sum (show (0 : Int) < 8 by decide)
    have he2 := Int.fmod_lt_of_pos dr.sum (show (0 : Int) < 8 by decide)
    refine exF (calendar_spec (bs := bs) (e := dr.sum.fmod 8 + 2) G (fun b o _ q => F12.keep _ _ q) (arnd_top.less (e := 26) (by decide)).deeper codeHd hB3.1 hB3.2 (by omega) okb (by omega) n50.1 n50.2.2 ?_)
    intro h13 tk13 k13 h5f _
    obtain ⟨ps5, h5f⟩ := h5f
    (repeat' (first | (k_unfold; (try dsimp only)) | ((with_reducible show wpAny _ _ _ _ _ _); (fail_if_success (with_reducible show wpAny _ _ (exec (Stmt.While _ _ _ _) _) _ _ _)); (fail_if_success (with_reducible show wpAny _ _ (exec (Stmt.For _ _ _ _ _) _) _ _ _)); (fail_if_success (with_reducible show wpAny _ _ (eval (Expr.ListComp _ _ _ _) _) _ _ _)); (fail_if_success (with_reducible show wpAny _ _ (exec (Stmt.Assign [_] (Expr.ListComp _ _ _ _) _) _) _ _ _)); (fail_if_success (with_reducible show wpAny _ _ (subscriptTail _ _ _ _) _ _ _)); (fail_if_success (with_reducible show wpAny _ _ (call (Value.ref _) _) _ _ _)); (fail_if_success (with_reducible show wpAny _ _ (call (Value.builtin _) [Value.ref _]) _ _ _)); (fail_if_success (with_reducible show wpAny _ _ (call (Value.type _) [Value.ref _]) _ _ _)); (fail_if_success (with_reducible show wpAny _ _ (binaryOp _ (Value.ref _) (Value.ref _)) _ _ _)); (first | walk1 | (dsimp only; walk1)); (try dsimp only)) | ((with_reducible show (Frag.In _ _ ∧ _)); walk1; (try dsimp only)) | ((with_reducible show ite _ _ _); walk1; (try dsimp only))))
    have F13 := fr_kp F12 k13 (by simpa using n50.2.1.symm) (fun a ha => by rw [List.mem_singleton.mp ha]; exact n50.2.2)
    refine ⟨goodW_bool F13 hgens (raisesW_false ?_) ?_, ⟨ps5, h5f⟩, trivial⟩
    · wrow_none_raised
    · wrow_post)
end Mine

theorem PySem.Challenge.cw_in0189_01_holds : PySem.Challenge.rw_in0189_01.Holds :=
  Mine.fin_holds
