import PyProof.Rows.All
import Wide.All
import OpenK.AllK
import Wide.FinOn
import PySem.Challenge.RW_fc0056_01

set_option Elab.async false
set_option rowWalk.seconds 0
section
open PySem PySem.W PyProof.Rows
set_option maxRecDepth 100000 in
set_option maxHeartbeats 8000000 in
open_top Mine.hd for PySem.Challenge.rw_fc0056_01
end

theorem Mine.calm_B0 : True := by
  w_top off
  trivial
section
open PySem PySem.W PyProof.Rows
set_option maxRecDepth 100000
namespace Mine

abbrev Led := List (Addr × Obj)

def Tell (rm : Nat) (w : World) (mean : ExcName → Option Value) (mg mb : Str → Option Value) (f : Addr) (vs : List Value) (news : Led) (Post : Value → Led → Prop) : Prop :=
  ∀ (dp un : Nat) (gd : Option (List Code)) (cn : Str) (cs : Scope) (a : Addr) (ccd : Value) (cl : List (Str × Addr)) (outer : List Env) (A₀ : Around) (base h₀ : Heap) (L : Addr) (m : Str → Option Value) (s : Shared) (Q E : Value → Shared → Prop),
    Below A₀ base outer h₀ → Fr h₀ L s.heap m → (hd.heap_39 w.params).In h₀ → News h₀ L s.heap news → Top hd.view_39 (looseW hd.view_39 [Str.ofString "filter_points"]) mean mg mb h₀ → cs.kind = .function →
    dp + rm < recursionLimit → un + 20 * rm < cLine →
    (∀ r news' h' tk', Fr h₀ L h' m → News h₀ L h' news' → Post r news' → Q r { s with heap := h', toks := tk' }) →
    wpAny (model PySem.Challenge.rw_fc0056_01.row.prog w) (ktrTop dp un gd cn cs L a ccd cl outer) (call (.ref f) vs) Q E s

abbrev ent (w : World) (k : String) (t : Tok) (v : Value) : DictEntry := ⟨PyData.keyHash w.params (Str.ofString k), .str (Str.ofString k) t, v⟩

structure NodeC where
  a : Addr
  d : Addr
  tk : Nat → Tok
  i : Int
  ti : Tok
  pt : Addr
  x : Int
  tx : Tok
  y : Int
  ty : Tok
  tz : Tok

def nodeEs (w : World) (r : NodeC) (pr nx : Value) : List DictEntry :=
  [ent w "i" (r.tk 0) (.int r.i r.ti), ent w "point" (r.tk 1) (.ref r.pt), ent w "x" (r.tk 2) (.int r.x r.tx), ent w "y" (r.tk 3) (.int r.y r.ty), ent w "prev" (r.tk 4) pr, ent w "next" (r.tk 5) nx,
   ent w "z" (r.tk 6) (.int 0 r.tz), ent w "prev_z" (r.tk 7) .none, ent w "next_z" (r.tk 8) .none, ent w "steiner" (r.tk 9) (.bool false)]

def nodeO (r : NodeC) : Addr × Obj := (r.a, instObj 59 r.d)
def nodeD (w : World) (r : NodeC) (pr nx : Value) : Addr × Obj := (r.d, dictOf (nodeEs w r pr nx) 10)

structure NodeC.Small (r : NodeC) : Prop where
  x : Builtin.Int.intBits r.x ≤ 1100000
  y : Builtin.Int.intBits r.y ≤ 1100000

def ringL (w : World) (n : Nat) (rec : Nat → NodeC) (pr nx : Nat → Nat) : Led :=
  (List.range n).map (fun k => nodeO (rec k)) ++ (List.range n).map (fun k => nodeD w (rec k) (.ref (rec (pr k)).a) (.ref (rec (nx k)).a))

def upd (f : Nat → Nat) (k v : Nat) : Nat → Nat := fun j => if j = k then v else f j

/-- the nodes' dicts lie apart from each other and from all else -/
structure Sep (n : Nat) (rec : Nat → NodeC) (rest : Led) : Prop where
  inj : ∀ j k, j < n → k < n → (rec j).d = (rec k).d → j = k
  off : ∀ q ∈ rest, ∀ k, k < n → q.1 ≠ (rec k).d

section
variable {w : World} {n k : Nat} {rec : Nat → NodeC} {pr nx : Nat → Nat} {rest : Led}
theorem ring_o (hk : k < n) : ((rec k).a, instObj 59 (rec k).d) ∈ ringL w n rec pr nx ++ rest :=
  List.mem_append_left _ (List.mem_append_left _ (List.mem_map.mpr ⟨k, List.mem_range.mpr hk, rfl⟩))
theorem ring_d (hk : k < n) : ((rec k).d, dictOf (nodeEs w (rec k) (.ref (rec (pr k)).a) (.ref (rec (nx k)).a)) 10) ∈ ringL w n rec pr nx ++ rest :=
  List.mem_append_left _ (List.mem_append_right _ (List.mem_map.mpr ⟨k, List.mem_range.mpr hk, rfl⟩))
end

/-- an update of a ledger by address alone -/
theorem news_swap {h₀ h : Heap} {L d : Addr} {o' : Obj} {news' rem : Led} (N : News h₀ L h ((d, o') :: rem)) (hr : ∀ q ∈ news', q = (d, o') ∨ q ∈ rem) : News h₀ L h news' := fun q hq => by
  rcases hr q hq with rfl | hq
  · exact N _ (.head _)
  · exact N _ (.tail _ hq)

section
variable {prog : Program} {w : World} {A : Around} {E : Value → Shared → Prop} {s : Shared} {K : Frag} {x C dx L : Addr} {h₀ : Heap} {m : Str → Option Value} {news news' : Led} {ox : Obj} {es es' : List DictEntry} {n n' : Nat} {name : Str} {v : Value}
theorem set_led {Q : Unit → Shared → Prop} (F : Fr h₀ L s.heap m) (X₀ : K.In h₀) (N : News h₀ L s.heap news) (I : InstAt s.heap x ox C (some (dictOf es n))) (hd : ox.dict = some dx)
    (hs : findIn K (.ref C) "__setattr__" = some (some (.builtin "object.__setattr__"))) (hp : plainOver K C = true) (ht : takerIn K C name = some none) (hh : hasDictIn K C = true) (hl : (getL name es).isSome = true)
    (e : (putL name (PyData.keyHash w.params name) (.str name (s.toks + 1)) v es, putN name es n) = (es', n')) (hm : (dx, dictOf es n) ∈ news)
    (hz : es'.length ≤ 1000) (hn : ∀ q ∈ news', q = (dx, dictOf es' n') ∨ (q ∈ news ∧ q.1 ≠ dx))
    (h : ∀ h', Fr h₀ L h' m → News h₀ L h' news' → Q () { s with heap := h', toks := s.toks + 2 }) :
    wpAny (model prog w) A (setAttr (.ref x) name v) Q E s := by
  have N₁ : News h₀ L s.heap ((dx, dictOf es n) :: news.filter (fun q => decide (q.1 ≠ dx))) := fun q hq => by
    rcases List.mem_cons.mp hq with rfl | hq
    · exact N _ hm
    · exact N _ (List.mem_filter.mp hq).1
  refine set_dict F X₀ N₁ I hd hs hp ht hh hl e (Upd.head fun q hq => of_decide_eq_true (List.mem_filter.mp hq).2) hz fun h' F' N' => h h' F' (news_swap N' fun q hq => ?_)
  rcases hn q hq with q1 | ⟨q1, q2⟩
  · exact .inl q1
  · exact .inr (List.mem_filter.mpr ⟨q1, decide_eq_true q2⟩)
end

section
variable {w : World} {n k v : Nat} {rec : Nat → NodeC} {pr nx : Nat → Nat} {rest : Led}
theorem ring_prev (hk : k < n) (S : Sep n rec rest) {h₀ h : Heap} {L : Addr} (N : News h₀ L h (ringL w n rec pr nx ++ rest)) :
    ∀ q ∈ ringL w n rec (upd pr k v) nx ++ rest, q = ((rec k).d, dictOf (nodeEs w (rec k) (.ref (rec v).a) (.ref (rec (nx k)).a)) 10) ∨ (q ∈ ringL w n rec pr nx ++ rest ∧ q.1 ≠ (rec k).d) := fun q hq => by
  rcases List.mem_append.mp hq with hq | hq
  · rcases List.mem_append.mp hq with hq | hq
    · obtain ⟨j, hj, rfl⟩ := List.mem_map.mp hq
      have m1 := ring_o (w := w) (pr := pr) (nx := nx) (rest := rest) (rec := rec) (List.mem_range.mp hj)
      have m2 := ring_d (w := w) (pr := pr) (nx := nx) (rest := rest) (rec := rec) hk
      refine .inr ⟨m1, fun e => ?_⟩
      have g1 := N.get m1; have g2 := N.get m2
      have e : (rec j).a = (rec k).d := e
      rw [e, g2] at g1
      cases g1
    · obtain ⟨j, hj, rfl⟩ := List.mem_map.mp hq
      by_cases e : j = k
      · subst e; left; simp [nodeD, upd]
      · refine .inr ⟨?_, fun e' => e (S.inj _ _ (List.mem_range.mp hj) hk e')⟩
        simp only [upd, if_neg e]
        exact ring_d (List.mem_range.mp hj)
  · exact .inr ⟨List.mem_append_right _ hq, S.off q hq k hk⟩
theorem ring_next (hk : k < n) (S : Sep n rec rest) {h₀ h : Heap} {L : Addr} (N : News h₀ L h (ringL w n rec pr nx ++ rest)) :
    ∀ q ∈ ringL w n rec pr (upd nx k v) ++ rest, q = ((rec k).d, dictOf (nodeEs w (rec k) (.ref (rec (pr k)).a) (.ref (rec v).a)) 10) ∨ (q ∈ ringL w n rec pr nx ++ rest ∧ q.1 ≠ (rec k).d) := fun q hq => by
  rcases List.mem_append.mp hq with hq | hq
  · rcases List.mem_append.mp hq with hq | hq
    · obtain ⟨j, hj, rfl⟩ := List.mem_map.mp hq
      have m1 := ring_o (w := w) (pr := pr) (nx := nx) (rest := rest) (rec := rec) (List.mem_range.mp hj)
      have m2 := ring_d (w := w) (pr := pr) (nx := nx) (rest := rest) (rec := rec) hk
      refine .inr ⟨m1, fun e => ?_⟩
      have g1 := N.get m1; have g2 := N.get m2
      have e : (rec j).a = (rec k).d := e
      rw [e, g2] at g1
      cases g1
    · obtain ⟨j, hj, rfl⟩ := List.mem_map.mp hq
      by_cases e : j = k
      · subst e; left; simp [nodeD, upd]
      · refine .inr ⟨?_, fun e' => e (S.inj _ _ (List.mem_range.mp hj) hk e')⟩
        simp only [upd, if_neg e]
        exact ring_d (List.mem_range.mp hj)
  · exact .inr ⟨List.mem_append_right _ hq, S.off q hq k hk⟩
theorem set_prev {A : Around} {E : Value → Shared → Prop} {s : Shared} {h₀ : Heap} {L : Addr} {m : Str → Option Value} {Q : Unit → Shared → Prop} (hk : k < n) (S : Sep n rec rest)
    (F : Fr h₀ L s.heap m) (X : (hd.heap_39 w.params).In h₀) (N : News h₀ L s.heap (ringL w n rec pr nx ++ rest))
    (h : ∀ h', Fr h₀ L h' m → News h₀ L h' (ringL w n rec (upd pr k v) nx ++ rest) → Q () { s with heap := h', toks := s.toks + 2 }) :
    wpAny (model PySem.Challenge.rw_fc0056_01.row.prog w) A (setAttr (.ref (rec k).a) (Str.ofString "prev") (.ref (rec v).a)) Q E s := by
  revert X; k_fill; intro X
  refine set_led (K := hd.heap_39 w.params) (C := 59) F X N (InstAt.of_news N (ring_o hk) (ring_d hk)) rfl (by k_is) (by k_is) (by k_is) (by k_is) (by k_get) (by with_unfolding_all rfl) (ring_d hk) ?_ (ring_prev hk S N) h
  exact (by decide : (10 : Nat) ≤ 1000)
theorem set_next {A : Around} {E : Value → Shared → Prop} {s : Shared} {h₀ : Heap} {L : Addr} {m : Str → Option Value} {Q : Unit → Shared → Prop} (hk : k < n) (S : Sep n rec rest)
    (F : Fr h₀ L s.heap m) (X : (hd.heap_39 w.params).In h₀) (N : News h₀ L s.heap (ringL w n rec pr nx ++ rest))
    (h : ∀ h', Fr h₀ L h' m → News h₀ L h' (ringL w n rec pr (upd nx k v) ++ rest) → Q () { s with heap := h', toks := s.toks + 2 }) :
    wpAny (model PySem.Challenge.rw_fc0056_01.row.prog w) A (setAttr (.ref (rec k).a) (Str.ofString "next") (.ref (rec v).a)) Q E s := by
  revert X; k_fill; intro X
  refine set_led (K := hd.heap_39 w.params) (C := 59) F X N (InstAt.of_news N (ring_o hk) (ring_d hk)) rfl (by k_is) (by k_is) (by k_is) (by k_is) (by k_get) (by with_unfolding_all rfl) (ring_d hk) ?_ (ring_next hk S N) h
  exact (by decide : (10 : Nat) ≤ 1000)
end

section
variable {M : Model} {A : Around} {E : Value → Shared → Prop} {s : Shared} {w : World} {n j k : Nat} {rec : Nat → NodeC} {pr nx : Nat → Nat} {rest : Led} {h₀ : Heap} {L : Addr} {Q : Value → Shared → Prop}
theorem ring_inj {h : Heap} (N : News h₀ L h (ringL w n rec pr nx ++ rest)) (S : Sep n rec rest) (hj : j < n) (hk : k < n) (e : (rec j).a = (rec k).a) : j = k := by
  have g1 := N.get (ring_o hj)
  have g2 := N.get (ring_o hk)
  rw [e, g2] at g1
  injection g1 with g1
  simp only [instObj, Obj.mk.injEq, Option.some.injEq] at g1
  exact (S.inj k j hk hj g1.2.1).symm
theorem is_ring (N : News h₀ L s.heap (ringL w n rec pr nx ++ rest)) (S : Sep n rec rest) (hj : j < n) (hk : k < n) (h : Q (.bool (decide (j = k))) s) : wpAny M A (compareOp .Is (.ref (rec j).a) (.ref (rec k).a)) Q E s := by
  by_cases e : j = k
  · subst e; rw [decide_eq_true rfl] at h; exact wpAny_is_ref_self h
  · rw [decide_eq_false e] at h
    exact wpAny_is_ref_other (fun q => e (ring_inj N S hj hk q)) (N.get (ring_o hj)) (N.get (ring_o hk)) (by intro q; cases q) h
theorem isnot_ring (N : News h₀ L s.heap (ringL w n rec pr nx ++ rest)) (S : Sep n rec rest) (hj : j < n) (hk : k < n) (h : Q (.bool (!decide (j = k))) s) : wpAny M A (compareOp .IsNot (.ref (rec j).a) (.ref (rec k).a)) Q E s := by
  by_cases e : j = k
  · subst e; rw [decide_eq_true rfl] at h; exact wpAny_isNot_ref_self h
  · rw [decide_eq_false e] at h
    exact wpAny_isNot_ref_other (fun q => e (ring_inj N S hj hk q)) (N.get (ring_o hj)) (N.get (ring_o hk)) (by intro q; cases q) h
end
end Mine
end

theorem Mine.calm_B1 : True := by
  w_top off
  trivial
section
open PySem PySem.W PyProof.Rows
set_option maxRecDepth 100000
local macro_rules | `(tactic| bits_by_make) => `(tactic| with_reducible assumption)
local macro_rules | `(tactic| k_mem) => `(tactic| first | with_reducible exact Mine.ring_o (by with_reducible assumption) | with_reducible exact Mine.ring_d (by with_reducible assumption))
namespace Mine

theorem area_c {w : World} {mean : ExcName → Option Value} {mg mb : Str → Option Value} {news : Led} {p q r : NodeC} {pp pn qp qn rp rn : Value}
    (p1 : (p.a, instObj 59 p.d) ∈ news) (p2 : (p.d, dictOf (nodeEs w p pp pn) 10) ∈ news)
    (q1 : (q.a, instObj 59 q.d) ∈ news) (q2 : (q.d, dictOf (nodeEs w q qp qn) 10) ∈ news)
    (r1 : (r.a, instObj 59 r.d) ∈ news) (r2 : (r.d, dictOf (nodeEs w r rp rn) 10) ∈ news)
    (sp : p.Small) (sq : q.Small) (sr : r.Small) :
    Tell 2 w mean mg mb 70 [.ref p.a, .ref q.a, .ref r.a] news (fun v n' => n' = news ∧ ∃ t, v = .int ((q.y - p.y) * (r.x - q.x) - (q.x - p.x) * (r.y - q.y)) t) := by
  have spx := sp.x; have spy := sp.y; have sqx := sq.x; have sqy := sq.y; have srx := sr.x; have sry := sr.y
  unfold Tell
  k_fill
  intro dp un gd cn cs a ccd cl outer A₀ base h₀ L m s Q E B F X N T hk hdp hu hret
  refine wpAny_call ?_
  k_dflt ktr_enter
  k_steps
  exact hret _ news _ _ (by assumption) (by assumption) ⟨rfl, _, rfl⟩

/-- the sameness of two nodes -/
theorem eq_c {w : World} {news : Led} {p q : NodeC} {pp pn qp qn : Value}
    (p1 : (p.a, instObj 59 p.d) ∈ news) (p2 : (p.d, dictOf (nodeEs w p pp pn) 10) ∈ news)
    (q1 : (q.a, instObj 59 q.d) ∈ news) (q2 : (q.d, dictOf (nodeEs w q qp qn) 10) ∈ news)
    {mean : ExcName → Option Value} {mg mb : Str → Option Value}
    {dp un : Nat} {gd : Option (List Code)} {cn : Str} {cs : Scope} {a : Addr} {ccd : Value} {cl : List (Str × Addr)} {outer : List Env} {A₀ : Around} {base h₀ : Heap} {L : Addr} {m : Str → Option Value} {s : Shared} {Q : Value → Shared → Prop} {E : Value → Shared → Prop}
    (B : Below A₀ base outer h₀) (F : Fr h₀ L s.heap m) (X : (hd.heap_39 w.params).In h₀) (N : News h₀ L s.heap news) (T : Top hd.view_39 (looseW hd.view_39 [Str.ofString "filter_points"]) mean mg mb h₀) (hk : cs.kind = .function)
    (hdp : dp + 2 < recursionLimit) (hu : un + 40 < cLine)
    (hret : ∀ b h' tk', Fr h₀ L h' m → News h₀ L h' news → (b = true ↔ p.x = q.x ∧ p.y = q.y) → Q (.bool b) { s with heap := h', toks := tk' }) :
    wpAny (model PySem.Challenge.rw_fc0056_01.row.prog w) (ktrTop dp un gd cn cs L a ccd cl outer) (compareOp .Eq (.ref p.a) (.ref q.a)) Q E s := by
  revert B F X N T hk hdp hu hret
  k_fill
  intro B F X N T hk hdp hu hret
  have hu' : un < cLine := by omega
  refine cmp_ofEq ?_
  k_dflt (refine' cmp_K ?k1 ?k2 ?k3 ?k4 ?k5 ?k6 ?k7 ?k8 ?_; (case k1 => exact hu'); (case k2 => k_asm); (case k3 => k_asm); (case k4 => k_inst); (case k5 => k_typeOf); (case k6 => k_is); (case k7 => k_is); (case k8 => k_is); k_whole)
  refine wpAny_call ?_
  k_dflt ktr_enter
  k_steps
  · rename_i hx _ _ _ _
    exact hret _ _ _ (by assumption) (by assumption) (by simp [hx])
  · rename_i hx _ _ _ _
    exact hret _ _ _ (by assumption) (by assumption) (by simp [hx])

theorem remove_c {w : World} {mean : ExcName → Option Value} {mg mb : Str → Option Value} {n k : Nat} {rec : Nat → NodeC} {pr nx : Nat → Nat} {rest : Led}
    (hk : k < n) (hp : pr k < n) (hx : nx k < n) (S : Sep n rec rest) :
    Tell 2 w mean mg mb 84 [.ref (rec k).a] (ringL w n rec pr nx ++ rest) (fun v n' => v = .none ∧ n' = ringL w n rec (upd pr (nx k) (pr k)) (upd nx (pr k) (nx k)) ++ rest) := by
  unfold Tell
  k_fill
  intro dp un gd cn cs a ccd cl outer A₀ base h₀ L m s Q E B F X N T hkk hdp hu hret
  refine wpAny_call ?_
  k_dflt ktr_enter
  k_steps
  refine set_prev hx S (by assumption) (by assumption) (by assumption) ?_
  intro h1 F1 N1
  have e1 : upd pr (nx k) (pr k) k = pr k := by unfold upd; split <;> rfl
  k_steps
  simp only [e1]
  refine set_next hp S (by assumption) (by assumption) (by assumption) ?_
  intro h2 F2 N2
  k_steps
  exact hret _ _ _ _ (by assumption) (by assumption) ⟨rfl, rfl⟩
end Mine
end

theorem Mine.calm_B2 : True := by
  w_top off
  trivial
section
open PySem PySem.W PyProof.Rows PyProof.V
set_option maxRecDepth 100000
namespace Mine
def Halt (P : Prop) : Prop := P
theorem Halt.mk {P : Prop} (h : Halt P) : P := h
theorem Halt.out {P : Prop} (h : P) : Halt P := h
abbrev listO (vs : List Value) (k : Nat) : Obj := { cls := .type "list", data := .seq vs.toArray k }
abbrev tupO (x : Int) (t : Tok) (y : Int) (u : Tok) (k : Nat) : Obj := { cls := .type "tuple", data := .seq [Value.int x t, Value.int y u].toArray k }

section
variable {prog : Program} {w : World} {A : Around} {E : Value → Shared → Prop} {s : Shared} {h₀ : Heap} {L l : Addr} {news : Led}
theorem len_led {vs : List Value} {k n : Nat} {Q : Value → Shared → Prop} (N : News h₀ L s.heap news) (hm : (l, listO vs k) ∈ news) (hn : vs.length = n) (hf : (n : Int) < 2 ^ 63)
    (h : Q (.int (n : Int) (s.toks + 1)) { s with toks := s.toks + 1 + 1 }) : wpAny (model prog w) A (call (.builtin "len") [.ref l]) Q E s := by
  have hl : s.heap.IsList l vs.toArray := ⟨_, (N _ hm).1, rfl, k, rfl⟩
  have e : vs.toArray.size = n := by rw [List.size_toArray, hn]
  exact len_list hl (by rw [e]; exact hf) (by rw [e]; exact h)
theorem item_led {value slice : PySem.Expr} {vs : List Value} {n : Nat} {k : Int} {u : Tok} {v : Value} {Q : Value → Shared → Prop} (N : News h₀ L s.heap news) (hm : (l, listO vs n) ∈ news)
    (h0 : 0 ≤ k) (hfit : k < 2 ^ 63) (hv : vs[k.toNat]? = some v) (h : Q v s)
    (hs : subscripted slice false (.ref l) (.int k u) = operate [.ref l, .int k u] (getItem (.ref l) (.int k u)) := by with_unfolding_all rfl) :
    wpAny (model prog w) A (subscriptTail value slice (.ref l) (.int k u)) Q E s := by
  have hl : s.heap.IsList l vs.toArray := ⟨_, (N _ hm).1, rfl, n, rfl⟩
  exact tail_any hl.typeIs slot_list_getitem.lookup (wpAny_getItem_list hl h0 hfit (by simpa using hv) h) hs
end

section
variable {prog : Program} {w : World} {A : Around} {E : Value → Shared → Prop} {s : Shared} {env : Env} {h₀ : Heap} {x : Str} {body : List Stmt} {Q : Flow → Shared → Prop}
/-- a loop over a range by an invariant over the frame and the ledger -/
theorem range_loop {r : Addr} {a₀ b₀ st : Int} {t₀ u₀ v₀ : Tok} {n : Nat} {m₀ : Str → Option Value} {news : Led} (J : Nat → (Str → Option Value) → Led → Prop)
    (hh : A.handled = none) (hr : IsRange s.heap r a₀ b₀ st t₀ u₀ v₀) (hsmall : Builtin.Range.small a₀ b₀ st = true) (hsz : Builtin.Range.rangeSize a₀ b₀ st = (n : Int))
    (F : Fr h₀ env.locals s.heap m₀) (N : News h₀ env.locals s.heap news) (hj : J 0 m₀ news)
    (turn : ∀ i t m₁ nx h tk own, i < n → OwnOff own (nx.map (·.1)) → J i m₁ nx → Fr h₀ env.locals h (fun y => if y = x then some (.int (a₀ + (i : Int) * st) t) else m₁ y) → News h₀ env.locals h (nx ++ own) →
      wpAny (model prog w) A (execs body env) (InvPostG h₀ env.locals (J (i + 1)) own { s with heap := h, toks := tk } Q) E { s with heap := h, toks := tk })
    (done : ∀ m₁ nx h tk, J n m₁ nx → Fr h₀ env.locals h m₁ → News h₀ env.locals h nx → Q .next { s with heap := h, toks := tk }) :
    wpAny (model prog w) A (pyIter (.ref r)) (fun it s₂ => LoopAtV prog w A h₀ env x body Q E it s₂) E s := by
  refine wpAny_pyIter_range hr hsmall ?_
  have W : Walks prog w A s.heap.objs.size [s.heap.objs.size] [s.heap.objs.size] n (fun i v => i < n ∧ ∃ t, v = .int (a₀ + i * st) t)
      (fun i h => IsRangeIter h s.heap.objs.size (a₀ + (i : Nat) * st) ((n : Int) - (i : Nat)) st) := (Walks.range hh _ a₀ st n).bound
  refine kdr_loop J W (fun _ h => h) (fun _ h => h) ?_ ?_ ?_ ?_ (by show IsRangeIter _ _ _ _ _; rw [hsz]; simpa using Heap.get?_push_size _ rfl) (F.push _) (fun p hp => ⟨Heap.get?_push_of_some _ (N p hp).1, (N p hp).2⟩) hj ?_ ?_
  · intro i h hi b hb
    rw [List.mem_singleton.mp hb]
    exact ⟨_, hi⟩
  · intro hm
    exact absurd F.ns.lt ((List.mem_singleton.mp hm) ▸ Nat.lt_irrefl _)
  · intro b hb
    rw [List.mem_singleton.mp hb]
    exact next_is_new F
  · intro p hp hI
    exact absurd (Heap.lt_size (N p hp).1) ((List.mem_singleton.mp hI) ▸ Nat.lt_irrefl _)
  · rintro i v m₁ nx h tk own hi ⟨_, t, rfl⟩ hoff hJ F₁ N₁
    exact turn i t m₁ nx h tk own hi hoff hJ F₁ N₁
  · intro m₁ nx h tk hJ F₁ N₁
    exact done m₁ nx h tk hJ F₁ N₁
end

section
variable {prog : Program} {w : World} {A : Around} {E : Value → Shared → Prop} {s : Shared} {env : Env} {h₀ : Heap} {x : Str} {body : List Stmt} {Q : Flow → Shared → Prop}
theorem range_up {r : Addr} {t₀ u₀ v₀ : Tok} {n : Nat} {m₀ : Str → Option Value} {news : Led} (J : Nat → (Str → Option Value) → Led → Prop)
    (hh : A.handled = none) (hr : IsRange s.heap r 0 (n : Int) 1 t₀ u₀ v₀) (hn : (n : Int) < 2 ^ 62)
    (F : Fr h₀ env.locals s.heap m₀) (N : News h₀ env.locals s.heap news) (hj : J 0 m₀ news)
    (turn : ∀ i t m₁ nx h tk own, i < n → OwnOff own (nx.map (·.1)) → J i m₁ nx → Fr h₀ env.locals h (fun y => if y = x then some (.int (i : Int) t) else m₁ y) → News h₀ env.locals h (nx ++ own) →
      wpAny (model prog w) A (execs body env) (InvPostG h₀ env.locals (J (i + 1)) own { s with heap := h, toks := tk } Q) E { s with heap := h, toks := tk })
    (done : ∀ m₁ nx h tk, J n m₁ nx → Fr h₀ env.locals h m₁ → News h₀ env.locals h nx → Q .next { s with heap := h, toks := tk }) :
    wpAny (model prog w) A (pyIter (.ref r)) (fun it s₂ => LoopAtV prog w A h₀ env x body Q E it s₂) E s := by
  refine range_loop (n := n) J hh hr (small_one (by omega) (by omega) (by omega) hn) (by rw [rangeSize_nat]; simp) F N hj ?_ done
  intro i t m₁ nx h tk own hi ho hJ F₁ N₁
  rw [show (0 : Int) + (i : Int) * 1 = (i : Int) by omega] at F₁
  exact turn i t m₁ nx h tk own hi ho hJ F₁ N₁
theorem range_down {r : Addr} {t₀ u₀ v₀ : Tok} {n : Nat} {m₀ : Str → Option Value} {news : Led} (J : Nat → (Str → Option Value) → Led → Prop)
    (hh : A.handled = none) (hr : IsRange s.heap r ((n : Int) - 1) (-1) (-1) t₀ u₀ v₀) (hn : (n : Int) < 2 ^ 62)
    (F : Fr h₀ env.locals s.heap m₀) (N : News h₀ env.locals s.heap news) (hj : J 0 m₀ news)
    (turn : ∀ i t m₁ nx h tk own, i < n → OwnOff own (nx.map (·.1)) → J i m₁ nx → Fr h₀ env.locals h (fun y => if y = x then some (.int ((n - 1 - i : Nat) : Int) t) else m₁ y) → News h₀ env.locals h (nx ++ own) →
      wpAny (model prog w) A (execs body env) (InvPostG h₀ env.locals (J (i + 1)) own { s with heap := h, toks := tk } Q) E { s with heap := h, toks := tk })
    (done : ∀ m₁ nx h tk, J n m₁ nx → Fr h₀ env.locals h m₁ → News h₀ env.locals h nx → Q .next { s with heap := h, toks := tk }) :
    wpAny (model prog w) A (pyIter (.ref r)) (fun it s₂ => LoopAtV prog w A h₀ env x body Q E it s₂) E s := by
  refine range_loop (n := n) J hh hr (small_down (by omega) (by omega) (by omega) (by omega)) (by rw [rangeSize_downNat]; omega) F N hj ?_ done
  intro i t m₁ nx h tk own hi ho hJ F₁ N₁
  rw [show (n : Int) - 1 + (i : Int) * (-1) = ((n - 1 - i : Nat) : Int) by omega] at F₁
  exact turn i t m₁ nx h tk own hi ho hJ F₁ N₁
end

section
variable {m : Str → Option Value}
theorem two_names {x y : Str} {a b : Value} (hx : m x = some a) (hy : m y = some b) : m = fun z => if z = x then some a else if z = y then some b else m z := by
  funext z
  by_cases h1 : z = x
  · simp [h1, hx]
  · by_cases h2 : z = y
    · subst h2; simp [h1, hy]
    · simp [h1, h2]
theorem three_names {x y u : Str} {a b c : Value} (hx : m x = some a) (hy : m y = some b) (hu : m u = some c) : m = fun z => if z = x then some a else if z = y then some b else if z = u then some c else m z := by
  funext z
  by_cases h1 : z = x
  · simp [h1, hx]
  · by_cases h2 : z = y
    · subst h2; simp [h1, hy]
    · by_cases h3 : z = u
      · subst h3; simp [h1, h2, hu]
      · simp [h1, h2, h3]
end

section
variable {prog : Program} {w : World} {A : Around} {E : Value → Shared → Prop} {s : Shared} {h₀ : Heap} {L l : Addr} {m : Str → Option Value} {news : Led}
theorem append_led {vs : List Value} {k : Nat} {v : Value} (rem : Led) {Q : Value → Shared → Prop} (F : Fr h₀ L s.heap m) (N : News h₀ L s.heap news) (hm : (l, listO vs k) ∈ news) (hr : ∀ q ∈ rem, q ∈ news ∧ q.1 ≠ l)
    (hsz : vs.length ≤ 1000) (h : ∀ h', Fr h₀ L h' m → News h₀ L h' ((l, listO (vs ++ [v]) (k + 1)) :: rem) → Q .none { s with heap := h' }) : wpAny (model prog w) A (call (.builtin "list.append") [.ref l, v]) Q E s := by
  have N₁ : News h₀ L s.heap ((l, listOf vs.toArray k) :: rem) := fun q hq => by
    rcases List.mem_cons.mp hq with rfl | hq
    · exact N _ hm
    · exact N _ (hr q hq).1
  refine append_K F N₁ (Upd.head fun q hq => (hr q hq).2) (fun h' F' N' => h h' F' ?_) (by rw [PySem.sizeLine_eq, List.size_toArray]; omega)
  simpa using N'
theorem storeC_led {a : Addr} {cn : Str} {cs : Scope} {ccd : Value} {cl : List (Str × Addr)} {x : Str} {v : Value} {c : Addr} {o : Obj} {v₀ : Option Value} (rem : Led) {Q : Unit → Shared → Prop} (F : Fr h₀ L s.heap m) (N : News h₀ L s.heap news)
    (hc : cl.lookup x = some c) (hm : (c, o) ∈ news) (hd : o.data = .cell v₀) (hr : ∀ q ∈ rem, q ∈ news ∧ q.1 ≠ c)
    (h : ∀ h' o', Fr h₀ L h' m → News h₀ L h' ((c, o') :: rem) → o'.data = .cell (some v) → Q () { s with heap := h' })
    (hk : cs.kind = .function) (hx : (envX cn cs L a ccd cl).kindOf x = some .cell) : wpAny (model prog w) A (storeName (envX cn cs L a ccd cl) x v) Q E s := by
  have N₁ : News h₀ L s.heap ((c, o) :: rem) := fun q hq => by
    rcases List.mem_cons.mp hq with rfl | hq
    · exact N _ hm
    · exact N _ (hr q hq).1
  exact storeX_C F N₁ hc (UpdF.head fun q hq => (hr q hq).2) hd h hk hx
end
end Mine
end

theorem Mine.calm_B3 : True := by
  w_top off
  trivial
section
open PySem PySem.W PyProof.Rows PyProof.V
set_option maxRecDepth 100000
namespace Mine
section
variable {prog : Program} {w : World} {A : Around} {s : Shared} {h₀ : Heap} {L : Addr} {m : Str → Option Value} {env : Env} {ct elt : Expr} {x : Str} {scope : Scope} {cl : List (Str × Addr)} {S : Led → Prop} {P : Nat → Value → Prop} {Fin : List Value → Led → Prop} {news : Led}
/-- a comprehension without a test, by an invariant over what is made so far and the ledger -/
theorem restU {n : Nat} (J : Nat → List Value → Led → Prop) (h0 : J 0 [] news)
    (turn : ∀ i ys nw v I oI C oC D m₂ h tk (E' : Value → Shared → Prop), i < n → P i v → J i ys nw → LCg.NsObj oC m₂ → m₂ x = some v → Fr h₀ L h m → News h₀ L h ((I, oI) :: (C, oC) :: (D, LCg.lst ys) :: nw) → LCg.Off3 I C D nw → ((@Ne Nat I C) ∧ (@Ne Nat I D) ∧ (@Ne Nat C D)) →
      wpAny (model prog w) A (eval elt (compEnvC scope cl C env)) (LCg.CompEnd h₀ L m { s with heap := h, toks := tk } I oI C oC D (LCg.lst ys) S (fun y nw' => J (i + 1) (ys ++ [y]) nw')) E' { s with heap := h, toks := tk })
    (fin : ∀ ys nw, J n ys nw → Fin ys nw) : LCg.CompRest prog w A h₀ L m env elt x scope cl s S P Fin n 0 [] news := by
  have key : ∀ (j i : Nat) (ys : List Value) (nw : Led), i + j = n → J i ys nw → LCg.CompRest prog w A h₀ L m env elt x scope cl s S P Fin j i ys nw := by
    intro j
    induction j with
    | zero =>
      intro i ys nw hi hj
      have e : i = n := by omega
      subst e
      exact LCg.CompRest.zero (fin ys nw hj)
    | succ j ih =>
      intro i ys nw hi hj
      refine LCg.CompRest.succ ?_
      intro v I oI C oC D m₂ h tk E' hv hC hx F N off ne
      refine wpAny_mono (turn i ys nw v I oI C oC D m₂ h tk E' (by omega) hv hj hC hx F N off ne) (fun y s₂ hq => ?_) fun _ _ e => e
      obtain ⟨h', tk', nw', e, F', N', off', hS, hn⟩ := hq
      exact ⟨h', tk', nw', e, F', N', off', hS, ih (i + 1) _ _ (by omega) hn⟩
  exact key n 0 [] news (by omega) h0
/-- the same with a test -/
theorem restT {n : Nat} (J : Nat → List Value → Led → Prop) (h0 : J 0 [] news)
    (turn : ∀ i ys nw v I oI C oC D m₂ h tk (E' : Value → Shared → Prop), i < n → P i v → J i ys nw → LCg.NsObj oC m₂ → m₂ x = some v → Fr h₀ L h m → News h₀ L h ((I, oI) :: (C, oC) :: (D, LCg.lst ys) :: nw) → LCg.Off3 I C D nw → ((@Ne Nat I C) ∧ (@Ne Nat I D) ∧ (@Ne Nat C D)) →
      wpAny (model prog w) A (isTrue ct (compEnvC scope cl C env) (eval ct (compEnvC scope cl C env))) (fun ok s' => if ok = true then
        wpAny (model prog w) A (eval elt (compEnvC scope cl C env)) (LCg.CompEnd h₀ L m { s with heap := h, toks := tk } I oI C oC D (LCg.lst ys) S (fun y nw' => J (i + 1) (ys ++ [y]) nw')) E' s'
        else LCg.CompEnd h₀ L m { s with heap := h, toks := tk } I oI C oC D (LCg.lst ys) S (fun _ nw' => J (i + 1) ys nw') Value.none s') E' { s with heap := h, toks := tk })
    (fin : ∀ ys nw, J n ys nw → Fin ys nw) : LCt.CompRestT prog w A h₀ L m env ct elt x scope cl s S P Fin n 0 [] news := by
  have key : ∀ (j i : Nat) (ys : List Value) (nw : Led), i + j = n → J i ys nw → LCt.CompRestT prog w A h₀ L m env ct elt x scope cl s S P Fin j i ys nw := by
    intro j
    induction j with
    | zero =>
      intro i ys nw hi hj
      have e : i = n := by omega
      subst e
      exact LCt.CompRestT.zero (fin ys nw hj)
    | succ j ih =>
      intro i ys nw hi hj
      refine LCt.CompRestT.succ ?_
      intro v I oI C oC D m₂ h tk E' hv hC hx F N off ne
      refine wpAny_mono (turn i ys nw v I oI C oC D m₂ h tk E' (by omega) hv hj hC hx F N off ne) (fun ok s₁ hk => ?_) fun _ _ e => e
      cases ok with
      | true =>
        simp only [if_true] at hk ⊢
        refine wpAny_mono hk (fun y s₂ hq => ?_) fun _ _ e => e
        obtain ⟨h', tk', nw', e, F', N', off', hS, hn⟩ := hq
        exact ⟨h', tk', nw', e, F', N', off', hS, ih (i + 1) _ _ (by omega) hn⟩
      | false =>
        simp only [Bool.false_eq_true, if_false] at hk ⊢
        obtain ⟨h', tk', nw', e, F', N', off', hS, hn⟩ := hk
        exact ⟨h', tk', nw', e, F', N', off', hS, ih (i + 1) _ _ (by omega) hn⟩
  exact key n 0 [] news (by omega) h0
end
theorem off3_of {I C D : Addr} {l : Led} (h : ∀ p ∈ l, p.1 ≠ I ∧ p.1 ≠ C ∧ p.1 ≠ D) : LCg.Off3 I C D l := LCg.Off3.of h
end Mine
end

theorem Mine.calm_B4 : True := by
  w_top off
  trivial
section
open PySem PySem.W PyProof.Rows PyProof.V
set_option maxRecDepth 100000
namespace Mine
section
variable {prog : Program} {w : World} {A : Around} {E : Value → Shared → Prop} {s : Shared} {h₀ : Heap} {L l : Addr} {m : Str → Option Value} {news : Led} {value slice : PySem.Expr} {vs : List Value} {k : Nat} {Q : Value → Shared → Prop}
theorem pick_upto {y : Int} (h : 0 ≤ y) : (slicePick vs.toArray none (some y) none).toList = vs.take y.toNat := by
  have e : sliceBounds none (some y) none vs.toArray.size = (((0 : Nat) : Int), ((min y.toNat vs.toArray.size : Nat) : Int), 1) := by
    simp only [sliceBounds, Option.getD_none, show (1 : Int) > 0 by decide, if_true, if_neg (show ¬ (y < 0) by omega)]
    congr 1
    congr 1
    omega
  rw [kmk_pick_nat _ e]
  show (vs.drop 0).take (min y.toNat vs.toArray.size - 0) = _
  rw [List.drop_zero, Nat.sub_zero, List.size_toArray, kmk_take_min]
theorem pick_from {x : Int} (h : 0 ≤ x) : (slicePick vs.toArray (some x) none none).toList = vs.drop x.toNat := by
  have e : sliceBounds (some x) none none vs.toArray.size = (((min x.toNat vs.toArray.size : Nat) : Int), ((vs.toArray.size : Nat) : Int), 1) := by
    simp only [sliceBounds, Option.getD_none, show (1 : Int) > 0 by decide, if_true, if_neg (show ¬ (x < 0) by omega)]
    congr 1
    omega
  rw [kmk_pick_nat _ e]
  show (vs.drop (min x.toNat vs.toArray.size)).take (vs.toArray.size - min x.toNat vs.toArray.size) = _
  rw [List.size_toArray, kmk_drop_min, List.take_of_length_le (by rw [List.length_drop]; omega)]
theorem slice_upto {y : Int} {ty : Tok} (F : Fr h₀ L s.heap m) (N : News h₀ L s.heap news) (hm : (l, listO vs k) ∈ news) (h0 : 0 ≤ y) (hz : vs.length ≤ 1000)
    (h : ∀ D h', Fr h₀ L h' m → News h₀ L h' ((D, listO (vs.take y.toNat) 0) :: news) → (∀ p ∈ news, p.1 < D) → Q (.ref D) { s with heap := h' })
    (hs : subscripted slice false (.ref l) (.ref s.heap.objs.size) = operate [.ref s.heap.objs.size, .ref l] (getItem (.ref l) (.ref s.heap.objs.size))) (ht : ∀ r, letTemporaryGo value (.ref l) r = pure ()) :
    wpAny (model prog w) A (subscriptTail value slice (.ref l) (.ref s.heap.objs.size)) Q E { s with heap := s.heap.push { cls := .type "slice", data := .fields #[.none, .int y ty, .none] } } :=
  kmk_slice_lit F N ⟨_, N.get hm, rfl, k, rfl⟩ .none (.int y ty) (pick_upto h0) h hs ht (by rw [PySem.sizeLine_eq, List.size_toArray]; omega)
theorem slice_from {y : Int} {ty : Tok} (F : Fr h₀ L s.heap m) (N : News h₀ L s.heap news) (hm : (l, listO vs k) ∈ news) (h0 : 0 ≤ y) (hz : vs.length ≤ 1000)
    (h : ∀ D h', Fr h₀ L h' m → News h₀ L h' ((D, listO (vs.drop y.toNat) 0) :: news) → (∀ p ∈ news, p.1 < D) → Q (.ref D) { s with heap := h' })
    (hs : subscripted slice false (.ref l) (.ref s.heap.objs.size) = operate [.ref s.heap.objs.size, .ref l] (getItem (.ref l) (.ref s.heap.objs.size))) (ht : ∀ r, letTemporaryGo value (.ref l) r = pure ()) :
    wpAny (model prog w) A (subscriptTail value slice (.ref l) (.ref s.heap.objs.size)) Q E { s with heap := s.heap.push { cls := .type "slice", data := .fields #[.int y ty, .none, .none] } } :=
  kmk_slice_lit F N ⟨_, N.get hm, rfl, k, rfl⟩ (.int y ty) .none (pick_from h0) h hs ht (by rw [PySem.sizeLine_eq, List.size_toArray]; omega)
theorem add_led {a b : Addr} {us : List Value} {j : Nat} (F : Fr h₀ L s.heap m) (N : News h₀ L s.heap news) (ha : (a, listO vs k) ∈ news) (hb : (b, listO us j) ∈ news) (hz : vs.length + us.length ≤ 1000)
    (h : ∀ D h', Fr h₀ L h' m → News h₀ L h' ((D, listO (vs ++ us) 0) :: news) → (∀ p ∈ news, p.1 < D) → Q (.ref D) { s with heap := h' }) : wpAny (model prog w) A (binaryOp .Add (.ref a) (.ref b)) Q E s :=
  kmk_add_lit F N ⟨_, N.get ha, rfl, k, rfl⟩ ⟨_, N.get hb, rfl, j, rfl⟩ rfl h (by rw [PySem.sizeLine_eq]; show vs.length + us.length ≤ _; omega)
theorem item_neg {i : Int} {u : Tok} {v : Value} (N : News h₀ L s.heap news) (hm : (l, listO vs k) ∈ news)
    (h0 : i < 0) (h1 : -(vs.length : Int) ≤ i) (hfit : -(2 ^ 63) ≤ i) (hv : vs[(i + vs.length).toNat]? = some v) (h : Q v s)
    (hs : subscripted slice false (.ref l) (.int i u) = operate [.ref l, .int i u] (getItem (.ref l) (.int i u)) := by with_unfolding_all rfl) :
    wpAny (model prog w) A (subscriptTail value slice (.ref l) (.int i u)) Q E s := by
  have hl : s.heap.IsList l vs.toArray := ⟨_, (N _ hm).1, rfl, k, rfl⟩
  exact tail_any hl.typeIs slot_list_getitem.lookup (wpAny_getItem_list_neg hl h0 (by simpa using h1) hfit (by simpa using hv) h) hs
/-- xs[j - 1], the one before, round the ring -/
theorem item_before {j : Nat} {i : Int} {u : Tok} {v : Value} (N : News h₀ L s.heap news) (hm : (l, listO vs k) ∈ news) (hi : i = (j : Int) - 1) (hj : j < vs.length) (hn : vs.length ≤ 1000)
    (hv : vs[(if j = 0 then vs.length else j) - 1]? = some v) (h : Q v s)
    (hs : subscripted slice false (.ref l) (.int i u) = operate [.ref l, .int i u] (getItem (.ref l) (.int i u)) := by with_unfolding_all rfl) :
    wpAny (model prog w) A (subscriptTail value slice (.ref l) (.int i u)) Q E s := by
  by_cases e : j = 0
  · subst e
    refine item_neg N hm (by omega) (by omega) (by omega) ?_ h hs
    rw [if_pos rfl] at hv
    have : (i + vs.length).toNat = vs.length - 1 := by omega
    rw [this]; exact hv
  · refine item_led N hm (by omega) (by omega) ?_ h hs
    rw [if_neg e] at hv
    have : i.toNat = j - 1 := by omega
    rw [this]; exact hv
end
end Mine
end

section
namespace Mine
abbrev Pt := Int × Int
/-- the turning at b on the way a, b, c -/
def crs (a b c : Pt) : Int := (b.1 - a.1) * (c.2 - b.2) - (b.2 - a.2) * (c.1 - b.1)

theorem mul_cancel {v x : Int} (hv : v ≠ 0) (h : v * x = 0) : x = 0 := by
  rcases Int.mul_eq_zero.mp h with h | h
  · exact absurd h hv
  · exact h

theorem crs_mid {a p q d : Pt} (h1 : crs a p q = 0) (h2 : crs p q d = 0) (hne : p ≠ q) : crs a q d = 0 ∧ crs a p d = 0 := by
  obtain ⟨a1, a2⟩ := a
  obtain ⟨p1, p2⟩ := p
  obtain ⟨q1, q2⟩ := q
  obtain ⟨d1, d2⟩ := d
  simp only [crs] at *
  generalize hu1 : p1 - a1 = u1 at *
  generalize hu2 : p2 - a2 = u2 at *
  generalize hv1 : q1 - p1 = v1 at *
  generalize hv2 : q2 - p2 = v2 at *
  generalize hw1 : d1 - q1 = w1 at *
  generalize hw2 : d2 - q2 = w2 at *
  have e1 : q1 - a1 = u1 + v1 := by omega
  have e2 : q2 - a2 = u2 + v2 := by omega
  have e3 : d1 - p1 = v1 + w1 := by omega
  have e4 : d2 - p2 = v2 + w2 := by omega
  rw [e1, e2, e3, e4]
  have hv : v1 ≠ 0 ∨ v2 ≠ 0 := by
    by_cases h : v1 = 0
    · right
      intro h'
      apply hne
      have : p1 = q1 := by omega
      have : p2 = q2 := by omega
      simp [*]
    · exact .inl h
  have key : u1 * w2 - u2 * w1 = 0 := by
    rcases hv with hv | hv
    · refine mul_cancel hv ?_
      have i : v1 * (u1 * w2 - u2 * w1) = u1 * (v1 * w2 - v2 * w1) + w1 * (u1 * v2 - u2 * v1) := by
        simp only [Int.sub_eq_add_neg, Int.mul_add, Int.mul_neg, Int.mul_comm, Int.mul_left_comm]
        omega
      rw [i, h1, h2]
      simp
    · refine mul_cancel hv ?_
      have i : v2 * (u1 * w2 - u2 * w1) = u2 * (v1 * w2 - v2 * w1) + w2 * (u1 * v2 - u2 * v1) := by
        simp only [Int.sub_eq_add_neg, Int.mul_add, Int.mul_neg, Int.mul_comm, Int.mul_left_comm]
        omega
      rw [i, h1, h2]
      simp
  constructor
  · have i : (u1 + v1) * w2 - (u2 + v2) * w1 = (u1 * w2 - u2 * w1) + (v1 * w2 - v2 * w1) := by
      simp only [Int.add_mul]
      omega
    rw [i, key, h2]; rfl
  · have i : u1 * (v2 + w2) - u2 * (v1 + w1) = (u1 * v2 - u2 * v1) + (u1 * w2 - u2 * w1) := by
      simp only [Int.mul_add]
      omega
    rw [i, key, h1]; rfl

theorem crs_same (a b : Pt) : crs a b b = 0 := by simp [crs]
theorem crs_back (a b : Pt) : crs a b a = 0 := by
  obtain ⟨a1, a2⟩ := a
  obtain ⟨b1, b2⟩ := b
  simp only [crs]
  have e1 : a1 - b1 = -(b1 - a1) := by omega
  have e2 : a2 - b2 = -(b2 - a2) := by omega
  rw [e1, e2, Int.mul_neg, Int.mul_neg, Int.mul_comm (b2 - a2)]
  omega

section
variable {α : Type}
/-- one list turned -/
def Rot (l m : List α) : Prop := ∃ a b, l = a ++ b ∧ m = b ++ a
theorem Rot.refl (l : List α) : Rot l l := ⟨[], l, rfl, by simp⟩
theorem Rot.symm {l m : List α} (h : Rot l m) : Rot m l := let ⟨a, b, x, y⟩ := h; ⟨b, a, y, x⟩
theorem Rot.len {l m : List α} (h : Rot l m) : l.length = m.length := by
  obtain ⟨a, b, rfl, rfl⟩ := h
  simp only [List.length_append]; omega
theorem Rot.trans {l m k : List α} (h : Rot l m) (h' : Rot m k) : Rot l k := by
  obtain ⟨a, b, rfl, rfl⟩ := h
  obtain ⟨c, d, e, rfl⟩ := h'
  rcases List.append_eq_append_iff.mp e with ⟨x, rfl, rfl⟩ | ⟨x, rfl, rfl⟩
  · exact ⟨x, d ++ b, by simp, by simp⟩
  · exact ⟨a ++ c, x, by simp, by simp⟩
theorem Rot.mem {l m : List α} (h : Rot l m) (x : α) : x ∈ l ↔ x ∈ m := by
  obtain ⟨a, b, rfl, rfl⟩ := h
  simp only [List.mem_append]; exact Or.comm
theorem Rot.map {β : Type} (f : α → β) {l m : List α} (h : Rot l m) : Rot (l.map f) (m.map f) := by
  obtain ⟨a, b, rfl, rfl⟩ := h
  exact ⟨a.map f, b.map f, by simp, by simp⟩
theorem Rot.nodup {l m : List α} (h : Rot l m) (n : l.Nodup) : m.Nodup := by
  obtain ⟨a, b, rfl, rfl⟩ := h
  exact (List.perm_append_comm.nodup_iff).mp n

/-- the reductions of a cyclic word: a point without turning goes, the word may be turned -/
inductive RR (P : α → Pt) : List α → List α → Prop
  | refl (l) : RR P l l
  | step {l t : List α} {p : α} : RR P l (p :: t) → (h : t ≠ []) → crs (P (t.getLast h)) (P p) (P (t.head h)) = 0 → RR P l t
  | rot {l a b : List α} : RR P l (a ++ b) → RR P l (b ++ a)
theorem RR.trans {P : α → Pt} {l m k : List α} (h : RR P l m) (h' : RR P m k) : RR P l k := by
  induction h' with
  | refl => exact h
  | step _ hn hc ih => exact .step ih hn hc
  | rot _ ih => exact .rot ih
theorem RR.ofRot {P : α → Pt} {l m : List α} (h : Rot l m) : RR P l m := by
  obtain ⟨a, b, rfl, rfl⟩ := h
  exact .rot (.refl _)
theorem RR.turn {P : α → Pt} {l m k : List α} (h : RR P l m) (h' : Rot m k) : RR P l k := h.trans (.ofRot h')
theorem RR.ne {P : α → Pt} {l m : List α} (h : RR P l m) (hl : l ≠ []) : m ≠ [] := by
  induction h with
  | refl => exact hl
  | step _ hn _ _ => exact hn
  | rot _ ih => intro e; apply ih; simp only [List.append_eq_nil_iff] at e ⊢; exact ⟨e.2, e.1⟩
theorem RR.len {P : α → Pt} {l m : List α} (h : RR P l m) : m.length ≤ l.length := by
  induction h with
  | refl => exact Nat.le_refl _
  | step _ _ _ ih => simp only [List.length_cons] at ih; omega
  | rot _ ih => simp only [List.length_append] at ih ⊢; omega

/-- each point has a turning -/
def Nf (P : α → Pt) (l : List α) : Prop := ∀ u p v, l = u ++ p :: v → ∀ h : v ++ u ≠ [], crs (P ((v ++ u).getLast h)) (P p) (P ((v ++ u).head h)) ≠ 0

/-- one reduction -/
def St (P : α → Pt) (l t : List α) : Prop := ∃ p, Rot l (p :: t) ∧ ∃ h : t ≠ [], crs (P (t.getLast h)) (P p) (P (t.head h)) = 0

theorem St.of {P : α → Pt} {l m t : List α} (h : Rot l m) (s : St P m t) : St P l t := let ⟨p, r, x⟩ := s; ⟨p, h.trans r, x⟩
theorem RR.ofSt {P : α → Pt} {l t : List α} (s : St P l t) : RR P l t := let ⟨_, r, h, x⟩ := s; .step (.ofRot r) h x
theorem RR.first {P : α → Pt} {l u : List α} (h : RR P l u) : Rot l u ∨ ∃ t, St P l t ∧ RR P t u := by
  induction h with
  | refl => exact .inl (Rot.refl _)
  | step r hn hc ih =>
    rcases ih with h | ⟨t, s, q⟩
    · exact .inr ⟨_, ⟨_, h, hn, hc⟩, .refl _⟩
    · exact .inr ⟨t, s, .step q hn hc⟩
  | rot r ih =>
    rcases ih with h | ⟨t, s, q⟩
    · exact .inl (h.trans ⟨_, _, rfl, rfl⟩)
    · exact .inr ⟨t, s, .rot q⟩
theorem Nf.noStep {P : α → Pt} {l t : List α} (n : Nf P l) (s : St P l t) : False := by
  obtain ⟨p, ⟨a, b, rfl, e⟩, h, c⟩ := s
  cases b with
  | nil =>
    simp only [List.nil_append] at e
    subst e
    have := n [] p t (by simp) (by simpa using h)
    simp only [List.append_nil] at this
    exact this c
  | cons q b =>
    simp only [List.cons_append, List.cons.injEq] at e
    obtain ⟨rfl, rfl⟩ := e
    exact n a p b rfl h c
theorem Nf.turn {P : α → Pt} {l m : List α} (n : Nf P l) (h : Rot l m) : Nf P m := by
  intro u p v e hn c
  exact n.noStep (t := v ++ u) ⟨p, h.trans ⟨u, p :: v, e, by simp⟩, hn, c⟩
theorem not_nf {P : α → Pt} {l : List α} (h : ¬ Nf P l) : ∃ t, St P l t := by
  apply Classical.byContradiction
  intro hn
  apply h
  intro u p v e hv c
  exact hn ⟨v ++ u, p, ⟨u, p :: v, e, by simp⟩, hv, c⟩
theorem St.len {P : α → Pt} {l t : List α} (s : St P l t) : t.length + 1 = l.length := by
  obtain ⟨p, r, _⟩ := s
  have := r.len
  simpa using this.symm
theorem St.ne {P : α → Pt} {l t : List α} (s : St P l t) : t ≠ [] := let ⟨_, _, h, _⟩ := s; h

theorem exists_nf (P : α → Pt) : ∀ (n : Nat) (l : List α), l.length ≤ n → ∃ m, RR P l m ∧ Nf P m := by
  intro n
  induction n with
  | zero =>
    intro l hl
    refine ⟨l, .refl _, ?_⟩
    intro u p v e
    rw [e] at hl
    simp at hl
  | succ n ih =>
    intro l hl
    by_cases h : Nf P l
    · exact ⟨l, .refl _, h⟩
    · obtain ⟨t, s⟩ := not_nf h
      obtain ⟨m, r, q⟩ := ih t (by have := s.len; omega)
      exact ⟨m, (RR.ofSt s).trans r, q⟩
end

/-- two of the reductions meet -/
theorem diamond {α : Type} {P : α → Pt} {l t₁ t₂ : List α} (s₁ : St P l t₁) (s₂ : St P l t₂) :
    (t₁.length = 1 ∧ t₂.length = 1) ∨ ∃ w₁ w₂, RR P t₁ w₁ ∧ RR P t₂ w₂ ∧ Rot (w₁.map P) (w₂.map P) ∧ w₁ ≠ [] := by
  obtain ⟨p, r₁, n₁, c₁⟩ := s₁
  obtain ⟨q, r₂, n₂, c₂⟩ := s₂
  obtain ⟨x, y, e₁, e₂⟩ := r₁.symm.trans r₂
  cases x with
  | nil =>
    simp only [List.nil_append, List.append_nil] at e₁ e₂
    rw [← e₁] at e₂
    cases e₂
    exact .inr ⟨t₁, t₁, .refl _, .refl _, Rot.refl _, n₁⟩
  | cons p' A =>
    simp only [List.cons_append, List.cons.injEq] at e₁
    obtain ⟨rfl, rfl⟩ := e₁
    cases y with
    | nil =>
      simp only [List.nil_append, List.cons.injEq] at e₂
      obtain ⟨rfl, rfl⟩ := e₂
      simp only [List.append_nil] at n₁ ⊢
      exact .inr ⟨_, _, .refl _, .refl _, Rot.refl _, n₁⟩
    | cons q' B =>
      simp only [List.cons_append, List.cons.injEq] at e₂
      obtain ⟨rfl, rfl⟩ := e₂
      cases A with
      | nil =>
        cases B with
        | nil => exact .inl ⟨rfl, rfl⟩
        | cons b B =>
          -- p, q, b :: B
          right
          simp only [List.nil_append] at n₁ c₁ ⊢
          simp only [List.head_cons] at c₁
          have hB : (b :: B) ≠ [] := by simp
          have c₂' : crs (P p) (P q) (P b) = 0 := by
            have e : ((b :: B) ++ [p]).getLast (by simp) = p := List.getLast_concat
            rw [e] at c₂; simpa only [List.cons_append, List.head_cons] using c₂
          have c₁' : crs (P ((b :: B).getLast hB)) (P p) (P q) = 0 := by
            rw [List.getLast_cons hB] at c₁; exact c₁
          by_cases hpq : P p = P q
          · refine ⟨q :: b :: B, b :: B ++ [p], .refl _, .refl _, ?_, by simp⟩
            exact ⟨[P q], (b :: B).map P, by simp, by simp [hpq]⟩
          · obtain ⟨m1, m2⟩ := crs_mid c₁' c₂' hpq
            refine ⟨b :: B, b :: B, .step (p := q) (.refl _) hB (by simpa using m1), ?_, Rot.refl _, hB⟩
            exact .step (p := p) (.rot (a := b :: B) (b := [p]) (.refl _)) hB (by simpa using m2)
      | cons a A =>
        cases B with
        | nil =>
          right
          simp only [List.nil_append] at n₂ c₂ ⊢
          simp only [List.head_cons] at c₂
          have hA : (a :: A) ≠ [] := by simp
          have c₁' : crs (P q) (P p) (P a) = 0 := by
            have e : ((a :: A) ++ [q]).getLast (by simp) = q := List.getLast_concat
            rw [e] at c₁; simpa only [List.cons_append, List.head_cons] using c₁
          have c₂' : crs (P ((a :: A).getLast hA)) (P q) (P p) = 0 := by
            rw [List.getLast_cons hA] at c₂; exact c₂
          by_cases hpq : P p = P q
          · refine ⟨a :: A ++ [q], p :: a :: A, .refl _, .refl _, ?_, by simp⟩
            exact ⟨(a :: A).map P, [P q], by simp, by simp [hpq]⟩
          · obtain ⟨m1, m2⟩ := crs_mid c₂' c₁' (fun e => hpq e.symm)
            refine ⟨a :: A, a :: A, ?_, .step (p := p) (.refl _) hA (by simpa using m1), Rot.refl _, hA⟩
            exact .step (p := q) (.rot (a := a :: A) (b := [q]) (.refl _)) hA (by simpa using m2)
        | cons b B =>
          right
          have hBA : (b :: B) ++ (a :: A) ≠ [] := by simp
          have hAB : (a :: A) ++ (b :: B) ≠ [] := by simp
          refine ⟨(b :: B) ++ (a :: A), (a :: A) ++ (b :: B), ?_, ?_, Rot.map P ⟨b :: B, a :: A, rfl, rfl⟩, hBA⟩
          · refine .step (p := q) (.rot (a := a :: A) (b := q :: b :: B) (.refl _)) hBA ?_
            have e1 : ((b :: B) ++ (a :: A)).getLast hBA = (a :: A).getLast (by simp) := List.getLast_append_of_ne_nil _ (by simp)
            have e2 : ((b :: B) ++ p :: (a :: A)).getLast (by simp) = (a :: A).getLast (by simp) := by
              rw [List.getLast_append_of_ne_nil _ (by simp), List.getLast_cons (by simp)]
            rw [e1, ← e2]
            simpa using c₂
          · refine .step (p := p) (.rot (a := b :: B) (b := p :: a :: A) (.refl _)) hAB ?_
            have e1 : ((a :: A) ++ (b :: B)).getLast hAB = (b :: B).getLast (by simp) := List.getLast_append_of_ne_nil _ (by simp)
            have e2 : ((a :: A) ++ q :: (b :: B)).getLast (by simp) = (b :: B).getLast (by simp) := by
              rw [List.getLast_append_of_ne_nil _ (by simp), List.getLast_cons (by simp)]
            rw [e1, ← e2]
            simpa using c₁

/-- the same ring, or both a single point -/
def Eqv (u v : List Pt) : Prop := Rot u v ∨ (u.length = 1 ∧ v.length = 1)
theorem Eqv.symm {u v : List Pt} (h : Eqv u v) : Eqv v u := h.imp Rot.symm fun x => ⟨x.2, x.1⟩
theorem Eqv.trans {u v z : List Pt} (h : Eqv u v) (h' : Eqv v z) : Eqv u z := by
  rcases h with h | h <;> rcases h' with h' | h'
  · exact .inl (h.trans h')
  · exact .inr ⟨h.len.trans h'.1, h'.2⟩
  · exact .inr ⟨h.1, h'.len.symm.trans h.2⟩
  · exact .inr ⟨h.1, h'.2⟩

theorem RR.map {α : Type} {P : α → Pt} {l m : List α} (h : RR P l m) : RR id (l.map P) (m.map P) := by
  induction h with
  | refl => exact .refl _
  | step _ hn hc ih =>
    refine .step (by simpa using ih) (by simpa using hn) ?_
    simpa [List.getLast_map, List.head_map] using hc
  | rot _ ih =>
    simp only [List.map_append] at ih ⊢
    exact .rot ih
theorem Nf.map {α : Type} {P : α → Pt} {l : List α} (h : Nf P l) : Nf id (l.map P) := by
  intro u p v e hv
  obtain ⟨u', r, rfl, e1, e2⟩ := List.map_eq_append_iff.mp e
  obtain ⟨p', v', rfl, rfl, e3⟩ := List.map_eq_cons_iff.mp e2
  subst e1 e3
  have hv' : v' ++ u' ≠ [] := by
    intro q
    apply hv
    rw [← List.map_append, q]; rfl
  have := h u' p' v' rfl hv'
  simpa [← List.map_append, List.getLast_map, List.head_map] using this

theorem one_of_len {P : Pt → Pt} {l m : List Pt} (h : RR P l m) (hl : l.length = 1) : m.length = 1 := by
  have h1 := h.len
  have h2 := h.ne (by intro e; rw [e] at hl; cases hl)
  have : m.length ≠ 0 := by simpa using h2
  omega

theorem confluent : ∀ (n : Nat) (l u v : List Pt), l.length ≤ n → RR id l u → Nf id u → RR id l v → Nf id v → l ≠ [] → Eqv u v := by
  intro n
  induction n with
  | zero =>
    intro l u v hl _ _ _ _ hne
    exact absurd (List.length_eq_zero_iff.mp (Nat.le_zero.mp hl)) hne
  | succ n ih =>
    intro l u v hl ru nu rv nv hne
    rcases ru.first with r₁ | ⟨t₁, s₁, q₁⟩
    · rcases rv.first with r₂ | ⟨t₂, s₂, q₂⟩
      · exact .inl (r₁.symm.trans r₂)
      · exact (Nf.noStep (nu.turn r₁.symm) s₂).elim
    · rcases rv.first with r₂ | ⟨t₂, s₂, q₂⟩
      · exact (Nf.noStep (nv.turn r₂.symm) s₁).elim
      · have l₁ := s₁.len
        have l₂ := s₂.len
        rcases diamond s₁ s₂ with ⟨h₁, h₂⟩ | ⟨w₁, w₂, a₁, a₂, rw', hw⟩
        · exact .inr ⟨one_of_len q₁ h₁, one_of_len q₂ h₂⟩
        · simp only [List.map_id] at rw'
          obtain ⟨m, rm, nm⟩ := exists_nf id _ w₁ (Nat.le_refl _)
          have b₁ := ih t₁ u m (by omega) q₁ nu (a₁.trans rm) nm s₁.ne
          have b₂ := ih t₂ v m (by omega) q₂ nv (a₂.trans ((RR.ofRot rw'.symm).trans rm)) nm s₂.ne
          exact b₁.trans b₂.symm
end Mine
end

section
namespace Mine
/-- linked one behind the other, both ways -/
def Lk (nx pr : Nat → Nat) : List Nat → Prop
  | x :: y :: r => (nx x = y ∧ pr y = x) ∧ Lk nx pr (y :: r)
  | _ => True
/-- a ring of links, both ways -/
def Cyc (nx pr : Nat → Nat) : List Nat → Prop
  | [] => False
  | x :: t => Lk nx pr (x :: t ++ [x])

section
variable {nx pr : Nat → Nat}
theorem Lk.app : ∀ (u : List Nat) {x : Nat} {v : List Nat}, Lk nx pr (u ++ x :: v) ↔ Lk nx pr (u ++ [x]) ∧ Lk nx pr (x :: v)
  | [], x, v => by simp [Lk]
  | [a], x, v => by simp [Lk]
  | a :: b :: u, x, v => by
    have ih := Lk.app (b :: u) (x := x) (v := v)
    simp only [List.cons_append, Lk] at ih ⊢
    rw [ih]
    exact ⟨fun ⟨h, i, j⟩ => ⟨⟨h, i⟩, j⟩, fun ⟨⟨h, i⟩, j⟩ => ⟨h, i, j⟩⟩
theorem Cyc.ne {l : List Nat} (h : Cyc nx pr l) : l ≠ [] := by
  intro e; subst e; exact h
theorem Cyc.turn {l m : List Nat} (h : Cyc nx pr l) (r : Rot l m) : Cyc nx pr m := by
  obtain ⟨a, b, rfl, rfl⟩ := r
  cases a with
  | nil => simpa using h
  | cons x a =>
    cases b with
    | nil => simpa using h
    | cons y b =>
      have h' : Lk nx pr ((x :: a) ++ y :: (b ++ [x])) := by
        have : Lk nx pr (x :: (a ++ y :: b) ++ [x]) := h
        simpa using this
      obtain ⟨h1, h2⟩ := (Lk.app _).mp h'
      have : Lk nx pr ((y :: b) ++ x :: (a ++ [y])) := (Lk.app _).mpr ⟨h2, h1⟩
      show Lk nx pr (y :: (b ++ x :: a) ++ [y])
      simpa using this
theorem Lk.ends : ∀ {t : List Nat} {x : Nat} (h : t ≠ []), Lk nx pr (x :: t) → nx x = t.head h ∧ pr (t.head h) = x
  | y :: t, x, _, k => k.1
theorem Lk.fin (t : List Nat) {x : Nat} (h : t ≠ []) (k : Lk nx pr (t ++ [x])) : nx (t.getLast h) = x ∧ pr x = t.getLast h := by
  have e : t ++ [x] = t.dropLast ++ t.getLast h :: [x] := by
    conv => lhs; rw [← List.dropLast_concat_getLast h]
    simp
  rw [e] at k
  exact ((Lk.app _).mp k).2.1
/-- the neighbours of a point of the ring -/
theorem Cyc.near {l u v : List Nat} {p : Nat} (h : Cyc nx pr l) (e : l = u ++ p :: v) (hv : v ++ u ≠ []) :
    nx p = (v ++ u).head hv ∧ pr p = (v ++ u).getLast hv ∧ pr ((v ++ u).head hv) = p ∧ nx ((v ++ u).getLast hv) = p := by
  have h' : Cyc nx pr (p :: (v ++ u)) := h.turn ⟨u, p :: v, e, by simp⟩
  generalize v ++ u = w at *
  obtain ⟨x, w, rfl⟩ := List.exists_cons_of_ne_nil hv
  have k : Lk nx pr (p :: x :: (w ++ [p])) := by
    have : Lk nx pr (p :: (x :: w) ++ [p]) := h'
    simpa using this
  obtain ⟨d1, d2⟩ := Lk.fin (x :: w) hv (by simpa using k.2)
  exact ⟨k.1.1, d2, k.1.2, d1⟩
theorem Cyc.self {p : Nat} (h : Cyc nx pr [p]) : nx p = p ∧ pr p = p := (show Lk nx pr [p, p] from h).1
theorem Lk.upd {a b v z : Nat} : ∀ {u : List Nat}, Lk nx pr u → (∀ x ∈ u.dropLast, x ≠ a) → (∀ x ∈ u.tail, x ≠ b) → Lk (fun j => if j = a then v else nx j) (fun j => if j = b then z else pr j) u
  | [], _, _, _ => trivial
  | [_], _, _, _ => trivial
  | x :: y :: r, h, h1, h2 => by
    have hx : x ≠ a := h1 x (by simp)
    have hy : y ≠ b := h2 y (by simp)
    refine ⟨⟨by simp [hx, h.1.1], by simp [hy, h.1.2]⟩, Lk.upd (u := y :: r) h.2 (fun q hq => h1 q ?_) fun q hq => h2 q ?_⟩
    · simp only [List.dropLast_cons_cons] at hq ⊢
      exact List.mem_cons_of_mem _ hq
    · simp only [List.tail_cons] at hq ⊢
      exact List.mem_cons_of_mem _ hq
/-- a point taken out of the ring -/
theorem Cyc.cut {p : Nat} {t : List Nat} (h : Cyc nx pr (p :: t)) (ht : t ≠ []) (nd : (p :: t).Nodup) : Cyc (fun j => if j = pr p then nx p else nx j) (fun j => if j = nx p then pr p else pr j) t := by
  obtain ⟨c1, c2, _, _⟩ := h.near (u := []) (v := t) rfl (by simpa using ht)
  simp only [List.append_nil] at c1 c2
  obtain ⟨a, t', rfl⟩ := List.exists_cons_of_ne_nil ht
  have k : Lk nx pr (p :: (a :: t') ++ [p]) := h
  have k1 : Lk nx pr ([p] ++ a :: (t' ++ [p])) := by simpa using k
  have k2 := ((Lk.app _).mp k1).2
  have k3 : Lk nx pr ((a :: t') ++ [p]) := by simpa using k2
  have e : (a :: t') = (a :: t').dropLast ++ [(a :: t').getLast ht] := (List.dropLast_concat_getLast ht).symm
  have k4 : Lk nx pr (a :: t') := by
    have : Lk nx pr ((a :: t').dropLast ++ (a :: t').getLast ht :: [p]) := by
      have e' : (a :: t').dropLast ++ (a :: t').getLast ht :: [p] = (a :: t') ++ [p] := by
        conv => rhs; rw [e]
        simp
      rw [e']; exact k3
    have := ((Lk.app _).mp this).1
    rwa [← e] at this
  have nd' : (a :: t').Nodup := (List.nodup_cons.mp nd).2
  rw [c1, c2]
  simp only [List.head_cons]
  have k5 := Lk.upd (a := (a :: t').getLast ht) (b := a) (v := a) (z := (a :: t').getLast ht) k4 (fun x hx hq => ?_) (fun x hx hq => ?_)
  · show Lk _ _ (a :: t' ++ [a])
    have e2 : a :: t' ++ [a] = (a :: t').dropLast ++ (a :: t').getLast ht :: [a] := by
      conv => lhs; rw [e]
      simp
    rw [e2]
    refine (Lk.app _).mpr ⟨by rw [← e]; exact k5, ⟨?_, ?_⟩, trivial⟩
    · simp
    · simp
  · rw [e, List.nodup_append] at nd'
    exact nd'.2.2 x hx _ (List.mem_singleton.mpr rfl) hq
  · subst hq
    exact (List.nodup_cons.mp nd').1 hx
end

/-- the first of d, then p -/
def fst (d : List Nat) (p : Nat) : Nat := match d with | [] => p | x :: _ => x

/-- where the filter stands: d is looked at, p is at hand, t is to come -/
structure FS (P : Nat → Pt) (n : Nat) (l₀ : List Nat) (nx pr : Nat → Nat) (d : List Nat) (p : Nat) (t : List Nat) : Prop where
  cyc : Cyc nx pr (d ++ p :: t)
  red : RR P l₀ (d ++ p :: t)
  nd : (d ++ p :: t).Nodup
  lt : ∀ x ∈ d ++ p :: t, x < n
  ok : ∀ x ∈ d, crs (P (pr x)) (P x) (P (nx x)) ≠ 0

/-- a ring that is filtered -/
structure Fin (P : Nat → Pt) (n : Nat) (l₀ : List Nat) (nx pr : Nat → Nat) (e : Nat) (t : List Nat) : Prop where
  cyc : Cyc nx pr (e :: t)
  red : RR P l₀ (e :: t)
  nd : (e :: t).Nodup
  lt : ∀ x ∈ e :: t, x < n
  nf : Nf P (e :: t)

section
variable {P : Nat → Pt} {n p : Nat} {l₀ d t : List Nat} {nx pr : Nat → Nat}
theorem Cyc.mem_nx {l : List Nat} (h : Cyc nx pr l) {x : Nat} (hx : x ∈ l) : nx x ∈ l ∧ pr x ∈ l := by
  obtain ⟨u, v, rfl⟩ := List.append_of_mem hx
  by_cases hv : v ++ u = []
  · simp only [List.append_eq_nil_iff] at hv
    obtain ⟨rfl, rfl⟩ := hv
    have := h.self
    rw [this.1, this.2]; exact ⟨hx, hx⟩
  · obtain ⟨c1, c2, _, _⟩ := h.near rfl hv
    have m1 := List.head_mem hv
    have m2 := List.getLast_mem hv
    rw [← c1] at m1; rw [← c2] at m2
    constructor
    · rcases List.mem_append.mp m1 with q | q
      · exact List.mem_append_right _ (List.mem_cons_of_mem _ q)
      · exact List.mem_append_left _ q
    · rcases List.mem_append.mp m2 with q | q
      · exact List.mem_append_right _ (List.mem_cons_of_mem _ q)
      · exact List.mem_append_left _ q
theorem Cyc.back {l : List Nat} (h : Cyc nx pr l) {x : Nat} (hx : x ∈ l) : pr (nx x) = x := by
  obtain ⟨u, v, rfl⟩ := List.append_of_mem hx
  by_cases hv : v ++ u = []
  · simp only [List.append_eq_nil_iff] at hv
    obtain ⟨rfl, rfl⟩ := hv
    have := h.self
    rw [this.1, this.2]
  · obtain ⟨c1, _, c3, _⟩ := h.near rfl hv
    rw [c1, c3]
theorem Cyc.last {d : List Nat} {c : Nat} (h : Cyc nx pr (p :: t)) (e : p :: t = d ++ [c]) : nx c = p := by
  cases d with
  | nil =>
    simp only [List.nil_append, List.cons.injEq] at e
    obtain ⟨rfl, rfl⟩ := e
    exact h.self.1
  | cons x d =>
    simp only [List.cons_append, List.cons.injEq] at e
    obtain ⟨rfl, rfl⟩ := e
    obtain ⟨c1, _, _, _⟩ := h.near (p := c) (u := p :: d) (v := []) (by simp) (by simp)
    simpa using c1
theorem Cyc.mid {d r : List Nat} {c q : Nat} (h : Cyc nx pr (p :: t)) (nd : (p :: t).Nodup) (e : p :: t = d ++ c :: q :: r) : nx c = q ∧ q ≠ p := by
  obtain ⟨c1, _, _, _⟩ := h.near e (by simp)
  refine ⟨by simpa using c1, ?_⟩
  intro q'
  subst q'
  cases d with
  | nil =>
    simp only [List.nil_append, List.cons.injEq] at e
    obtain ⟨rfl, rfl⟩ := e
    simp at nd
  | cons x d =>
    simp only [List.cons_append, List.cons.injEq] at e
    obtain ⟨rfl, rfl⟩ := e
    simp at nd
theorem nodup_len : ∀ {n : Nat} {l : List Nat}, l.Nodup → (∀ x ∈ l, x < n) → l.length ≤ n := by
  intro n
  induction n with
  | zero =>
    intro l _ h
    cases l with
    | nil => simp
    | cons x l => exact absurd (h x (by simp)) (Nat.not_lt_zero _)
  | succ n ih =>
    intro l nd h
    have h1 : (l.erase n).Nodup := nd.erase n
    have h2 := ih h1 (fun x hx => by
      have hm := (List.Nodup.mem_erase_iff nd).mp hx
      have := h x hm.2
      have := hm.1
      omega)
    have h3 := List.length_erase (a := n) (l := l)
    split at h3 <;> omega
theorem FS.here (h : FS P n l₀ nx pr d p t) : p < n ∧ nx p < n ∧ pr p < n := by
  have hm : p ∈ d ++ p :: t := by simp
  have := h.cyc.mem_nx hm
  exact ⟨h.lt _ hm, h.lt _ this.1, h.lt _ this.2⟩
theorem FS.start {l : List Nat} (hc : Cyc nx pr (p :: t)) (nd : (p :: t).Nodup) (lt : ∀ x ∈ p :: t, x < n) (hl : l = p :: t) : FS P n l nx pr [] p t :=
  ⟨hc, hl ▸ .refl _, nd, lt, fun _ h => nomatch h⟩
theorem FS.on {q : Nat} (h : FS P n l₀ nx pr d p (q :: t)) (hp : crs (P (pr p)) (P p) (P (nx p)) ≠ 0) : nx p = q ∧ FS P n l₀ nx pr (d ++ [p]) q t ∧ q ≠ fst d p ∧ fst (d ++ [p]) q = fst d p := by
  have e : d ++ p :: q :: t = (d ++ [p]) ++ q :: t := by simp
  obtain ⟨c1, _, _, _⟩ := h.cyc.near rfl (by simp)
  refine ⟨by simpa using c1, ⟨e ▸ h.cyc, e ▸ h.red, e ▸ h.nd, e ▸ h.lt, fun x hx => ?_⟩, ?_, ?_⟩
  · rcases List.mem_append.mp hx with hx | hx
    · exact h.ok x hx
    · rw [List.mem_singleton.mp hx]; exact hp
  · have nd := h.nd
    cases d with
    | nil =>
      intro e'
      simp only [fst] at e'
      subst e'
      simp at nd
    | cons x d =>
      intro e'
      simp only [fst] at e'
      subst e'
      simp at nd
  · cases d <;> rfl
theorem FS.round (h : FS P n l₀ nx pr d p []) (hp : crs (P (pr p)) (P p) (P (nx p)) ≠ 0) : nx p = fst d p ∧ ∃ t', d ++ [p] = fst d p :: t' ∧ Fin P n l₀ nx pr (fst d p) t' := by
  have hc : nx p = fst d p := by
    cases d with
    | nil => exact (show Cyc nx pr [p] from h.cyc).self.1
    | cons x d =>
      obtain ⟨c1, _, _, _⟩ := h.cyc.near rfl (by simp)
      simpa [fst] using c1
  obtain ⟨t', e⟩ : ∃ t', d ++ [p] = fst d p :: t' := by
    cases d with
    | nil => exact ⟨[], rfl⟩
    | cons x d => exact ⟨d ++ [p], rfl⟩
  refine ⟨hc, t', e, e ▸ h.cyc, e ▸ h.red, e ▸ h.nd, e ▸ h.lt, ?_⟩
  intro u q v e' hv
  have hq : q ∈ d ++ [p] := by rw [e, e']; simp
  obtain ⟨c1, c2, _, _⟩ := Cyc.near (show Cyc nx pr (fst d p :: t') from e ▸ h.cyc) e' hv
  rw [← c1, ← c2]
  rcases List.mem_append.mp hq with hq | hq
  · exact h.ok q hq
  · rw [List.mem_singleton.mp hq]; exact hp
/-- a point that goes, where another one stays -/
theorem FS.out (h : FS P n l₀ nx pr d p t) (hp : crs (P (pr p)) (P p) (P (nx p)) = 0) (hv : t ++ d ≠ []) :
    FS P n l₀ (fun j => if j = pr p then nx p else nx j) (fun j => if j = nx p then pr p else pr j) [] (pr p) (t ++ d).dropLast := by
  obtain ⟨c1, c2, _, _⟩ := h.cyc.near rfl hv
  have r : Rot (d ++ p :: t) (p :: (t ++ d)) := ⟨d, p :: t, rfl, by simp⟩
  have cy := (h.cyc.turn r).cut hv (r.nodup h.nd)
  have e : t ++ d = (t ++ d).dropLast ++ [pr p] := by rw [c2]; exact (List.dropLast_concat_getLast hv).symm
  have r2 : Rot (t ++ d) (pr p :: (t ++ d).dropLast) := ⟨(t ++ d).dropLast, [pr p], e, rfl⟩
  refine ⟨cy.turn r2, ?_, r2.nodup (List.nodup_cons.mp (r.nodup h.nd)).2, ?_, fun x hx => nomatch hx⟩
  · refine RR.turn ?_ r2
    refine .step (h.red.turn r) hv ?_
    rw [← c1, ← c2]; exact hp
  · intro x hx
    have : x ∈ t ++ d := (r2.mem x).mpr hx
    exact h.lt x ((r.mem x).mpr (List.mem_cons_of_mem _ this))
theorem FS.out_len (_h : FS P n l₀ nx pr d p t) (hv : t ++ d ≠ []) : (t ++ d).dropLast.length + 1 = t.length + d.length := by
  have := List.length_pos_iff.mpr hv
  simp only [List.length_append] at this
  rw [List.length_dropLast, List.length_append]; omega
/-- after a point has gone: is one alone left? -/
theorem FS.alone (h : FS P n l₀ nx pr [] p []) : nx p = p ∧ Fin P n l₀ nx pr p [] := by
  refine ⟨(show Cyc nx pr [p] from h.cyc).self.1, h.cyc, h.red, h.nd, h.lt, ?_⟩
  intro u q v e hv
  cases u with
  | nil =>
    simp only [List.nil_append, List.cons.injEq] at e
    obtain ⟨rfl, rfl⟩ := e
    simp at hv
  | cons x u => simp at e
theorem FS.more (h : FS P n l₀ nx pr [] p t) (ht : t ≠ []) : nx p ≠ p := by
  obtain ⟨c1, _, _, _⟩ := h.cyc.near (u := []) (v := t) rfl (by simpa using ht)
  intro e
  rw [e] at c1
  have := h.nd
  simp only [List.nil_append, List.nodup_cons] at this
  apply this.1
  have m := List.head_mem ht
  simp only [List.append_nil] at c1
  rw [← c1] at m
  exact m
/-- the last point of all: it stays -/
theorem FS.only (h : FS P n l₀ nx pr d p t) (hv : t ++ d = []) : pr p = p ∧ nx p = p ∧ d = [] ∧ t = [] := by
  simp only [List.append_eq_nil_iff] at hv
  obtain ⟨rfl, rfl⟩ := hv
  have := (show Cyc nx pr [p] from h.cyc).self
  exact ⟨this.2, this.1, rfl, rfl⟩
end
end Mine
end

section
namespace Mine
def bef (n j : Nat) : Nat := (if j = 0 then n else j) - 1
def aft (n j : Nat) : Nat := (j + 1) % n
def turnAt (P : Nat → Pt) (l : List Nat) (j : Nat) : Int := crs (P (l.getD (bef l.length j) 0)) (P (l.getD j 0)) (P (l.getD (aft l.length j) 0))

theorem near_idx {l u v : List Nat} {p : Nat} (e : l = u ++ p :: v) (h : v ++ u ≠ []) :
    (v ++ u).head h = l.getD (aft l.length u.length) 0 ∧ (v ++ u).getLast h = l.getD (bef l.length u.length) 0 ∧ p = l.getD u.length 0 ∧ 1 < l.length := by
  subst e
  have hlen : (u ++ p :: v).length = u.length + 1 + v.length := by simp only [List.length_append, List.length_cons]; omega
  have h1 : 1 < (u ++ p :: v).length := by
    rw [hlen]
    have : (v ++ u).length ≠ 0 := by simpa using h
    simp only [List.length_append] at this
    omega
  refine ⟨?_, ?_, by simp, h1⟩
  · cases v with
    | nil =>
      have e1 : aft (u ++ [p]).length u.length = 0 := by
        unfold aft
        simp
      rw [e1]
      cases u with
      | nil => simp at h
      | cons x u => simp
    | cons y v =>
      have e1 : aft (u ++ p :: y :: v).length u.length = u.length + 1 := by
        unfold aft
        rw [Nat.mod_eq_of_lt]
        simp only [List.length_append, List.length_cons]; omega
      rw [e1]
      simp [List.getD_eq_getElem?_getD, List.getElem?_append_right]
  · rcases List.eq_nil_or_concat u with rfl | ⟨u', x, rfl⟩
    · simp only [List.append_nil] at h
      have e1 : bef ([] ++ p :: v).length ([] : List Nat).length = v.length := by
        unfold bef
        simp
      rw [e1]
      simp only [List.append_nil, List.nil_append]
      rw [List.getLast_eq_getElem]
      have hv : v.length ≠ 0 := by simpa using h
      obtain ⟨z, hz⟩ : ∃ z, v.length = z + 1 := ⟨v.length - 1, by omega⟩
      simp [hz, List.getD_eq_getElem?_getD, List.getElem?_cons_succ]
    · simp only [List.concat_eq_append] at *
      have e1 : bef ((u' ++ [x]) ++ p :: v).length (u' ++ [x]).length = u'.length := by
        unfold bef
        simp
      rw [e1]
      simp [List.getD_eq_getElem?_getD, List.getElem?_append_right]

theorem nf_of_idx {P : Nat → Pt} {l : List Nat} (h : ∀ j, j < l.length → 1 < l.length → turnAt P l j ≠ 0) : Nf P l := by
  intro u p v e hv c
  obtain ⟨e1, e2, e3, e4⟩ := near_idx e hv
  have := h u.length (by rw [e]; simp) e4
  apply this
  unfold turnAt
  rw [← e1, ← e2, ← e3]
  exact c
theorem cut_idx {P : Nat → Pt} {l₀ l : List Nat} {j : Nat} (r : RR P l₀ l) (h1 : 1 < l.length) (hj : j < l.length) (c : turnAt P l j = 0) : RR P l₀ (l.take j ++ l.drop (j + 1)) := by
  have e : l = l.take j ++ l[j] :: l.drop (j + 1) := by
    rw [List.getElem_cons_drop]
    exact (List.take_append_drop j l).symm
  have hl : (l.take j).length = j := by rw [List.length_take]; omega
  have hv : l.drop (j + 1) ++ l.take j ≠ [] := by
    intro q
    have : (l.drop (j + 1) ++ l.take j).length = 0 := by rw [q]; rfl
    rw [List.length_append, List.length_drop, hl] at this
    omega
  obtain ⟨e1, e2, e3, _⟩ := near_idx e hv
  rw [hl] at e1 e2 e3
  refine RR.turn ?_ ⟨l.drop (j + 1), l.take j, rfl, rfl⟩
  refine .step (p := l[j]) (r.turn ⟨l.take j, l[j] :: l.drop (j + 1), e, (List.cons_append ..).symm⟩) hv ?_
  rw [e1, e2, e3]
  exact c
end Mine
namespace Mine
theorem RR.sub {α : Type} {P : α → Pt} {l m : List α} (h : RR P l m) : ∀ x ∈ m, x ∈ l := by
  induction h with
  | refl => exact fun _ hx => hx
  | step _ _ _ ih => exact fun x hx => ih x (List.mem_cons_of_mem _ hx)
  | rot _ ih => exact fun x hx => ih x ((List.mem_append.mp hx).elim (fun h => List.mem_append.mpr (.inr h)) fun h => List.mem_append.mpr (.inl h))
end Mine
end

section
namespace Mine
/-- a point behind the last of the ring -/
theorem Cyc.grow {nx pr : Nat → Nat} {a z p : Nat} {l : List Nat} (h : Cyc nx pr l) (nd : l.Nodup) (ha : l.head? = some a) (hz : l.getLast? = some z) (hp : p ∉ l) :
    Cyc (fun j => if j = z then p else if j = p then nx z else nx j) (fun j => if j = nx z then p else if j = p then z else pr j) (l ++ [p]) := by
  obtain ⟨x, t, rfl⟩ := List.exists_cons_of_ne_nil h.ne
  simp only [List.head?_cons, Option.some.injEq] at ha
  subst ha
  have hne : (x :: t) ≠ [] := by simp
  have hzl : (x :: t).getLast hne = z := by
    rw [List.getLast?_eq_some_getLast hne] at hz
    exact Option.some.inj hz
  have e : x :: t = (x :: t).dropLast ++ [z] := by
    rw [← hzl]; exact (List.dropLast_concat_getLast hne).symm
  have k : Lk nx pr ((x :: t) ++ [x]) := h
  have hnz : nx z = x := by
    have := (Lk.fin (x :: t) hne k).1
    rwa [hzl] at this
  have k4 : Lk nx pr (x :: t) := by
    rw [e] at k
    have k' : Lk nx pr ((x :: t).dropLast ++ z :: [x]) := by simpa using k
    have := ((Lk.app _).mp k').1
    rwa [← e] at this
  have hpz : p ≠ z := fun q => hp (by rw [q, ← hzl]; exact List.getLast_mem hne)
  have hpx : p ≠ x := fun q => hp (by rw [q]; exact List.mem_cons_self)
  rw [hnz]
  have k5 : Lk (fun j => if j = z then p else if j = p then x else nx j) (fun j => if j = x then p else if j = p then z else pr j) (x :: t) := by
    have := Lk.upd (a := p) (b := p) (v := x) (z := z) k4 (fun y hy q => hp (q ▸ List.dropLast_subset _ hy)) (fun y hy q => hp (q ▸ List.mem_of_mem_tail hy))
    refine Lk.upd (a := z) (b := x) (v := p) (z := p) this (fun y hy q => ?_) (fun y hy q => ?_)
    · subst q
      rw [e, List.nodup_append] at nd
      exact nd.2.2 y hy y (List.mem_singleton.mpr rfl) rfl
    · subst q
      exact (List.nodup_cons.mp nd).1 hy
  show Lk _ _ ((x :: t) ++ [p] ++ [x])
  have e2 : (x :: t) ++ [p] ++ [x] = (x :: t).dropLast ++ z :: [p, x] := by
    conv => lhs; rw [e]
    simp
  rw [e2]
  refine (Lk.app _).mpr ⟨by rw [← e]; exact k5, ⟨?_, ?_⟩, ⟨?_, ?_⟩, trivial⟩
  · simp
  · simp [hpx]
  · simp [hpz]
  · simp

/-- in order, but for one seam -/
def CO (l : List Nat) : Prop := ∃ s : List Nat, s.Pairwise (· < ·) ∧ Rot s l
theorem RR.co {P : Nat → Pt} {l m : List Nat} (h : RR P l m) (c : CO l) : CO m := by
  induction h with
  | refl => exact c
  | step _ _ _ ih =>
    obtain ⟨s, hs, a, b, rfl, e⟩ := ih
    cases b with
    | nil =>
      simp only [List.nil_append] at e
      subst e
      simp only [List.append_nil] at hs
      exact ⟨_, (List.pairwise_cons.mp hs).2, Rot.refl _⟩
    | cons q b =>
      simp only [List.cons_append, List.cons.injEq] at e
      obtain ⟨rfl, rfl⟩ := e
      exact ⟨a ++ b, hs.sublist (List.Sublist.append (List.Sublist.refl a) (List.sublist_cons_self _ b)), ⟨a, b, rfl, rfl⟩⟩
  | rot _ ih =>
    obtain ⟨s, hs, r⟩ := ih
    exact ⟨s, hs, r.trans ⟨_, _, rfl, rfl⟩⟩
theorem co_range (n : Nat) : CO (List.range n) := ⟨_, List.pairwise_lt_range, Rot.refl _⟩
theorem CO.nodup {l : List Nat} (c : CO l) : l.Nodup := by
  obtain ⟨s, hs, r⟩ := c
  exact r.nodup (hs.imp (fun h => Nat.ne_of_lt h))

theorem filter_one {n c : Nat} (h : c < n) : (List.range n).filter (fun j => decide (j = c)) = [c] := by
  induction n with
  | zero => omega
  | succ n ih =>
    rw [List.range_succ, List.filter_append]
    by_cases e : c = n
    · subst e
      have : (List.range c).filter (fun j => decide (j = c)) = [] := by
        rw [List.filter_eq_nil_iff]
        intro a ha
        have := List.mem_range.mp ha
        simp; omega
      rw [this]; simp
    · rw [ih (by omega)]
      have : ¬ n = c := fun q => e q.symm
      simp [this]

theorem one_seam {l : List Nat} (c : CO l) (h1 : 1 < l.length) : ((List.range l.length).filter (fun k => decide (l.getD k 0 ≤ l.getD (bef l.length k) 0))).length = 1 := by
  obtain ⟨s, hs, a, b, rfl, rfl⟩ := c
  have hf : ∀ i j, i < j → j < (a ++ b).length → (a ++ b).getD i 0 < (a ++ b).getD j 0 := by
    intro i j hij hj
    have := List.pairwise_iff_getElem.mp hs i j (by omega) hj hij
    rw [List.getD_eq_getElem?_getD, List.getD_eq_getElem?_getD, List.getElem?_eq_getElem (by omega), List.getElem?_eq_getElem hj]
    exact this
  have hlen : (b ++ a).length = (a ++ b).length := by simp only [List.length_append]; omega
  have hab : (a ++ b).length = a.length + b.length := List.length_append
  have hg : ∀ k, (b ++ a).getD k 0 = if k < b.length then (a ++ b).getD (a.length + k) 0 else if k < a.length + b.length then (a ++ b).getD (k - b.length) 0 else 0 := by
    intro k
    simp only [List.getD_eq_getElem?_getD, List.getElem?_append]
    by_cases h : k < b.length
    · have h2 : ¬ (a.length + k < a.length) := by omega
      simp only [h, if_true, if_neg h2, Nat.add_sub_cancel_left]
    · simp only [h, if_false]
      by_cases h3 : k < a.length + b.length
      · have h4 : k - b.length < a.length := by omega
        simp only [h3, h4, if_true]
      · have h4 : ¬ (k - b.length < a.length) := by omega
        simp only [h3, if_false]
        rw [List.getElem?_eq_none (by omega)]
        rfl
  generalize hF : (fun i => (a ++ b).getD i 0) = f at *
  have hF' : ∀ i, (a ++ b).getD i 0 = f i := fun i => congrFun hF i
  simp only [hF'] at hf hg
  rw [hlen] at h1
  have key : ∃ c, c < (b ++ a).length ∧ ∀ k, k < (b ++ a).length → ((b ++ a).getD k 0 ≤ (b ++ a).getD (bef (b ++ a).length k) 0 ↔ k = c) := by
    refine ⟨if a.length = 0 ∨ b.length = 0 then 0 else b.length, by split <;> omega, fun k hk => ?_⟩
    rw [hg, hg]
    unfold bef
    have z1 := hf 0 (a.length + b.length - 1) (by omega) (by omega)
    by_cases hk0 : k = 0
    · subst hk0
      by_cases ha : a.length = 0
      · simp only [ha, true_or, if_true, iff_true]
        rw [if_pos (by omega), if_pos (by omega)]
        rw [ha] at z1
        simp only [Nat.zero_add] at z1 ⊢
        rw [hlen, hab, ha, Nat.zero_add]
        omega
      · by_cases hb : b.length = 0
        · simp only [hb, or_true, if_true, iff_true]
          rw [if_neg (by omega), if_pos (by omega), if_neg (by omega), if_pos (by omega), hlen, hab, hb]
          rw [hb] at z1
          simp only [Nat.add_zero, Nat.sub_zero] at z1 ⊢
          omega
        · have z2 := hf (a.length - 1) a.length (by omega) (by omega)
          rw [if_pos (by omega), if_pos rfl, if_neg (by omega), if_pos (by omega), hlen, hab]
          have e : a.length + b.length - 1 - b.length = a.length - 1 := by omega
          rw [e, Nat.add_zero]
          constructor
          · intro h; omega
          · intro h; split at h <;> omega
    · rw [if_neg hk0]
      have hk' : k < a.length + b.length := by omega
      by_cases h1 : k < b.length
      · have z2 := hf (a.length + (k - 1)) (a.length + k) (by omega) (by omega)
        rw [if_pos h1, if_pos (by omega)]
        constructor
        · intro h; omega
        · intro h; split at h <;> omega
      · rw [if_neg h1, if_pos hk']
        by_cases h2 : k = b.length
        · subst h2
          have ha : a.length ≠ 0 := by omega
          rw [if_pos (by omega), Nat.sub_self]
          have e : a.length + (b.length - 1) = a.length + b.length - 1 := by omega
          rw [e]
          constructor
          · intro _; rw [if_neg (by omega)]
          · intro _; omega
        · have z2 := hf (k - 1 - b.length) (k - b.length) (by omega) (by omega)
          rw [if_neg (by omega), if_pos (by omega)]
          constructor
          · intro h; omega
          · intro h; split at h <;> omega
  obtain ⟨c, hc, hk⟩ := key
  have : (List.range (b ++ a).length).filter (fun k => decide ((b ++ a).getD k 0 ≤ (b ++ a).getD (bef (b ++ a).length k) 0)) = (List.range (b ++ a).length).filter (fun k => decide (k = c)) := by
    apply List.filter_congr
    intro k hk'
    exact decide_eq_decide.mpr (hk k (List.mem_range.mp hk'))
  rw [this, filter_one hc]
  rfl

theorem Rot.idx {α : Type} {u v : List α} (h : Rot u v) (hu : u ≠ []) : ∃ k, k < u.length ∧ v = u.drop k ++ u.take k := by
  obtain ⟨a, b, rfl, rfl⟩ := h
  cases b with
  | nil =>
    refine ⟨0, ?_, by simp⟩
    have : (a ++ []).length ≠ 0 := by simpa using hu
    omega
  | cons x b => exact ⟨a.length, by simp, by simp⟩
end Mine
end

theorem Mine.calm_C4 : True := by
  w_top off
  trivial
section
open PySem PySem.W PyProof.Rows
set_option maxRecDepth 100000
local macro_rules | `(tactic| k_mem) => `(tactic| first | with_reducible exact Mine.ring_o (by with_reducible assumption) | with_reducible exact Mine.ring_d (by with_reducible assumption))
local macro_rules | `(tactic| walk_at "exec While") => `(tactic| refine Mine.Halt.mk ?_)
namespace Mine
def ptOf (rec : Nat → NodeC) (k : Nat) : Pt := ((rec k).x, (rec k).y)

set_option maxHeartbeats 4000000 in
theorem filter_c {w : World} {mean : ExcName → Option Value} {mg mb : Str → Option Value} {n p₀ : Nat} {t₀ : List Nat} {rec : Nat → NodeC} {pr₀ nx₀ : Nat → Nat} {rest : Led}
    (S : Sep n rec rest) (sm : ∀ k, k < n → (rec k).Small) (hc : Cyc nx₀ pr₀ (p₀ :: t₀)) (nd : (p₀ :: t₀).Nodup) (lt : ∀ x ∈ p₀ :: t₀, x < n) :
    Tell 6 w mean mg mb 92 [.ref (rec p₀).a] (ringL w n rec pr₀ nx₀ ++ rest)
      (fun v n' => ∃ pr nx e t, v = .ref (rec e).a ∧ n' = ringL w n rec pr nx ++ rest ∧ Fin (ptOf rec) n (p₀ :: t₀) nx pr e t) := by
  unfold Tell
  k_fill
  intro dp un gd cn cs a ccd cl outer A₀ base h₀ L m s Q E B F X N T hkk hdp hu hret
  refine wpAny_call ?_
  k_dflt (refine' code_def ?k1 ?k2 ?k3 ?k4 ?k5 ?kA ?kF ?kK ?k6 ?k7 ?k8 ?k9 ?kB ?_ ?c2 ?c3 ?c4 ?c5; (case kA => exact rfl); (case kF => exact rfl); (case kK => assumption); (case k1 => k_asm); (case k2 => k_asm); (case k3 => k_asm); (case k4 => k_asm); (case k5 => k_asm); (case k6 => k_is); (case k7 => k_is); (case k8 => ktr_room); (case k9 => exact binds_K (by k_in) rfl (by k_is) rfl rfl rfl); (case c5 => decide); (case kB => exact locs rfl); (case c2 => exact rfl); (case c3 => exact rfl); (case c4 => exact rfl); k_whole; intro g' L' h' FG' F' N' B' X' T'; (try dsimp only); (try k_fold))
  k_steps
  refine Halt.out ?_
  rename_i F1 N1
  refine While_inv2 (fun μ m nx' => ∃ pr nx d p t, FS (ptOf rec) n (p₀ :: t₀) nx pr d p t ∧ m (Str.ofString "p") = some (.ref (rec p).a) ∧ m (Str.ofString "end") = some (.ref (rec (fst d p)).a) ∧
    nx' = ringL w n rec pr nx ++ rest ∧ μ = (d.length + 1 + t.length) * (d.length + 1 + t.length) + t.length + 1) F1 N1
    ⟨pr₀, nx₀, [], p₀, t₀, FS.start hc nd lt rfl, by rfl, by rfl, rfl, rfl⟩ ?_ (by first | passes_own | with_unfolding_all passes_own)
  · rintro μ m₁ news₁ h₁ tk₁ F₁ N₁ ⟨pr, nx, d, p, t, fs, hp, he, rfl, rfl⟩
    rw [two_names hp he] at F₁
    obtain ⟨hp1, hp2, hp3⟩ := fs.here
    k_steps
    k_dflt (refine eq_c (ring_o hp1) (ring_d hp1) (ring_o hp2) (ring_d hp2) B' (by assumption) X' (by assumption) T' rfl (by show dp + 1 + 2 < recursionLimit; omega) (by show un + 3 + 40 < cLine; omega) ?_)
    intro b h₂ tk₂ F₂ N₂ hb
    k_steps
    rotate_left
    · k_dflt (refine area_c (ring_o hp3) (ring_d hp3) (ring_o hp1) (ring_d hp1) (ring_o hp2) (ring_d hp2) (sm _ hp3) (sm _ hp1) (sm _ hp2) _ _ _ _ _ _ _ _ _ _ _ _ _ _ _ _ _ B' (by assumption) X' (by assumption) T' rfl (by show dp + 1 + 2 < recursionLimit; omega) (by show un + 3 + 40 < cLine; omega) ?_)
      rintro v news' h₃ tk₃ F₃ N₃ ⟨rfl, t₃, rfl⟩
      k_steps
      rotate_left
      · rename_i hne _ _ _
        have hcr : crs (ptOf rec (pr p)) (ptOf rec p) (ptOf rec (nx p)) ≠ 0 := by simp only [crs, ptOf]; omega
        cases t with
        | nil =>
          obtain ⟨e1, t', e2, fin⟩ := fs.round hcr
          have hfst : fst d p < n := fin.lt _ (.head _)
          refine isnot_ring (by assumption) S hp2 hfst ?_
          rw [decide_eq_true e1]
          k_steps
          dsimp only [WhileStep2]
          k_steps
          exact hret _ _ _ _ (by assumption) (by assumption) ⟨pr, nx, _, _, rfl, rfl, fin⟩
        | cons q t =>
          obtain ⟨e1, fs', e2, e3⟩ := fs.on hcr
          have hfst : fst d p < n := by
            cases d with
            | nil => exact fs.lt _ (by simp [fst])
            | cons x d => exact fs.lt _ (by simp [fst])
          refine isnot_ring (by assumption) S hp2 hfst ?_
          rw [decide_eq_false (by rw [e1]; exact e2)]
          k_steps
          refine ⟨_, _, _, _, _, rfl, by assumption, by assumption, ?_, pr, nx, d ++ [p], q, t, fs', ?_, ?_, rfl, rfl⟩
          · simp only [List.length_append, List.length_cons, List.length_nil]
            have : d.length + (0 + 1) + 1 + t.length = d.length + 1 + (t.length + 1) := by omega
            rw [this]; omega
          · show some (Value.ref (rec (nx p)).a) = _
            rw [e1]
          · show some (Value.ref (rec (fst d p)).a) = _
            rw [e3]
      · rename_i he0 _
        have hcr : crs (ptOf rec (pr p)) (ptOf rec p) (ptOf rec (nx p)) = 0 := by simp only [crs, ptOf]; omega
        k_dflt (refine remove_c hp1 hp3 hp2 S _ _ _ _ _ _ _ _ _ _ _ _ _ _ _ _ _ B' (by assumption) X' (by assumption) T' rfl (by show dp + 1 + 2 < recursionLimit; omega) (by show un + 3 + 40 < cLine; omega) ?_)
        rintro v news' h₄ tk₄ F₄ N₄ ⟨rfl, rfl⟩
        have ee : upd pr (nx p) (pr p) p = pr p := by unfold upd; split <;> rfl
        have ex : upd nx (pr p) (nx p) (pr p) = nx p := by unfold upd; rw [if_pos rfl]
        k_steps
        rename_i F5 _
        simp only [ee] at F5 ⊢
        k_steps
        simp only [ex]
        refine is_ring (by assumption) S hp3 hp2 ?_
        by_cases hv : t ++ d = []
        · obtain ⟨q1, q2, rfl, rfl⟩ := fs.only hv
          have u1 : upd pr (nx p) (pr p) = pr := by funext j; unfold upd; split <;> simp_all
          have u2 : upd nx (pr p) (nx p) = nx := by funext j; unfold upd; split <;> simp_all
          rw [decide_eq_true (q1.trans q2.symm)]
          k_steps
          dsimp only [WhileStep2]
          k_steps
          exact hret _ _ _ _ (by assumption) (by assumption) ⟨pr, nx, pr p, [], rfl, by rw [u1, u2], by rw [q1]; exact fs.alone.2⟩
        · have fs' : FS (ptOf rec) n (p₀ :: t₀) (upd nx (pr p) (nx p)) (upd pr (nx p) (pr p)) [] (pr p) (t ++ d).dropLast := fs.out hcr hv
          have hl := fs.out_len hv
          generalize (t ++ d).dropLast = t' at fs' hl
          cases t' with
          | nil =>
            have q := fs'.alone
            rw [ex] at q
            rw [decide_eq_true q.1.symm]
            k_steps
            dsimp only [WhileStep2]
            k_steps
            exact hret _ _ _ _ (by assumption) (by assumption) ⟨_, _, pr p, [], rfl, rfl, q.2⟩
          | cons c t' =>
            have q := fs'.more (by simp)
            rw [ex] at q
            rw [decide_eq_false (fun e => q e.symm)]
            k_steps
            refine ⟨_, _, _, _, _, rfl, by assumption, by assumption, ?_, _, _, [], pr p, c :: t', fs', rfl, rfl, rfl, rfl⟩
            have e1 : d.length + 1 + t.length = (c :: t').length + 1 + 1 := by omega
            have e2 : ([] : List Nat).length + 1 + (c :: t').length = (c :: t').length + 1 := by simp only [List.length_nil]; omega
            rw [e1, e2]
            generalize (c :: t').length = z
            simp only [Nat.add_mul, Nat.mul_add, Nat.mul_one, Nat.one_mul]
            omega
    · rename_i hb1
      have hcr : crs (ptOf rec (pr p)) (ptOf rec p) (ptOf rec (nx p)) = 0 := by
        have e : ptOf rec p = ptOf rec (nx p) := Prod.ext (hb.mp hb1).1 (hb.mp hb1).2
        rw [e]; exact crs_same _ _
      k_dflt (refine remove_c hp1 hp3 hp2 S _ _ _ _ _ _ _ _ _ _ _ _ _ _ _ _ _ B' (by assumption) X' (by assumption) T' rfl (by show dp + 1 + 2 < recursionLimit; omega) (by show un + 3 + 40 < cLine; omega) ?_)
      rintro v news' h₄ tk₄ F₄ N₄ ⟨rfl, rfl⟩
      have ee : upd pr (nx p) (pr p) p = pr p := by unfold upd; split <;> rfl
      have ex : upd nx (pr p) (nx p) (pr p) = nx p := by unfold upd; rw [if_pos rfl]
      k_steps
      rename_i F5 _
      simp only [ee] at F5 ⊢
      k_steps
      simp only [ex]
      refine is_ring (by assumption) S hp3 hp2 ?_
      by_cases hv : t ++ d = []
      · obtain ⟨q1, q2, rfl, rfl⟩ := fs.only hv
        have u1 : upd pr (nx p) (pr p) = pr := by funext j; unfold upd; split <;> simp_all
        have u2 : upd nx (pr p) (nx p) = nx := by funext j; unfold upd; split <;> simp_all
        rw [decide_eq_true (q1.trans q2.symm)]
        k_steps
        dsimp only [WhileStep2]
        k_steps
        exact hret _ _ _ _ (by assumption) (by assumption) ⟨pr, nx, pr p, [], rfl, by rw [u1, u2], by rw [q1]; exact fs.alone.2⟩
      · have fs' : FS (ptOf rec) n (p₀ :: t₀) (upd nx (pr p) (nx p)) (upd pr (nx p) (pr p)) [] (pr p) (t ++ d).dropLast := fs.out hcr hv
        have hl := fs.out_len hv
        generalize (t ++ d).dropLast = t' at fs' hl
        cases t' with
        | nil =>
          have q := fs'.alone
          rw [ex] at q
          rw [decide_eq_true q.1.symm]
          k_steps
          dsimp only [WhileStep2]
          k_steps
          exact hret _ _ _ _ (by assumption) (by assumption) ⟨_, _, pr p, [], rfl, rfl, q.2⟩
        | cons c t' =>
          have q := fs'.more (by simp)
          rw [ex] at q
          rw [decide_eq_false (fun e => q e.symm)]
          k_steps
          refine ⟨_, _, _, _, _, rfl, by assumption, by assumption, ?_, _, _, [], pr p, c :: t', fs', rfl, rfl, rfl, rfl⟩
          have e1 : d.length + 1 + t.length = (c :: t').length + 1 + 1 := by omega
          have e2 : ([] : List Nat).length + 1 + (c :: t').length = (c :: t').length + 1 := by simp only [List.length_nil]; omega
          rw [e1, e2]
          generalize (c :: t').length = z
          simp only [Nat.add_mul, Nat.mul_add, Nat.mul_one, Nat.one_mul]
          omega
end Mine
end

theorem Mine.calm_C5 : True := by
  w_top off
  trivial
section
open PySem PySem.W PyProof.Rows
set_option maxRecDepth 100000
local macro_rules | `(tactic| k_mem) => `(tactic| first | with_reducible assumption | with_reducible exact Mine.ring_o (by with_reducible assumption) | with_reducible exact Mine.ring_d (by with_reducible assumption) | with_reducible exact List.mem_cons_self | (with_reducible refine List.mem_cons_of_mem _ ?_; k_mem) | (with_reducible refine List.mem_append_right _ ?_; k_mem) | (with_reducible refine List.mem_append_left _ ?_; k_mem))
local macro_rules | `(tactic| k_all) => `(tactic| assumption)
namespace Mine
def pointEs (w : World) (tk : Nat → Tok) (x : Int) (tx : Tok) (y : Int) (ty : Tok) : List DictEntry := [ent w "x" (tk 0) (.int x tx), ent w "y" (tk 1) (.int y ty)]

theorem mk_node {w : World} {h₀ h : Heap} {L x d pt : Addr} {news : Led} {pr nx : Value} {t0 t1 t2 t3 t4 t5 t6 t7 t8 t9 ti ptx pty tz : Tok} {i px py : Int}
    (N : News h₀ L h ((x, instObj 59 d) :: (d, dictOf [ent w "i" t0 (.int i ti), ent w "point" t1 (.ref pt), ent w "x" t2 (.int px ptx), ent w "y" t3 (.int py pty), ent w "prev" t4 pr, ent w "next" t5 nx,
      ent w "z" t6 (.int 0 tz), ent w "prev_z" t7 .none, ent w "next_z" t8 .none, ent w "steiner" t9 (.bool false)] 10) :: news)) :
    ∃ r : NodeC, r.a = x ∧ r.d = d ∧ r.pt = pt ∧ r.x = px ∧ r.y = py ∧ News h₀ L h ((r.a, instObj 59 r.d) :: (r.d, dictOf (nodeEs w r pr nx) 10) :: news) :=
  ⟨⟨x, d, fun k => match k with | 0 => t0 | 1 => t1 | 2 => t2 | 3 => t3 | 4 => t4 | 5 => t5 | 6 => t6 | 7 => t7 | 8 => t8 | _ => t9, i, ti, pt, px, ptx, py, pty, tz⟩, rfl, rfl, rfl, rfl, rfl, N⟩

set_option maxHeartbeats 4000000 in
theorem insert0_c {w : World} {mean : ExcName → Option Value} {mg mb : Str → Option Value} {news : Led} {i : Int} {ti : Tok} {pt dp : Addr} {ptk : Nat → Tok} {px py : Int} {ptx pty : Tok}
    (h1 : (pt, instObj 31 dp) ∈ news) (h2 : (dp, dictOf (pointEs w ptk px ptx py pty) 2) ∈ news) :
    Tell 6 w mean mg mb 77 [.int i ti, .ref pt, .none] news
      (fun v n' => ∃ r : NodeC, v = .ref r.a ∧ r.pt = pt ∧ r.x = px ∧ r.y = py ∧ (∀ q ∈ news, q.1 ≠ r.a ∧ q.1 ≠ r.d) ∧ n' = ringL w 1 (fun _ => r) (fun _ => 0) (fun _ => 0) ++ news) := by
  unfold Tell
  k_fill
  intro dp' un gd cn cs a ccd cl outer A₀ base h₀ L m s Q E B F X N T hkk hdp hu hret
  refine wpAny_call ?_
  k_dflt ktr_enter
  k_steps
  k_dflt (refine' call_cls ?k1 ?k2 ?k3 ?k4 ?k5 ?k6 ?_; (case k1 => k_asm); (case k2 => k_asm); (case k3 => k_asm); (case k4 => k_is); (case k5 => k_is); (case k6 => k_is); k_whole; intro x' d' hx' Fx' Nx' lx1 lx2)
  have hnd : ∀ p ∈ news, p.1 ≠ d' := fun p hp => Nat.ne_of_lt (lx1 p hp)
  have hnx : ∀ p ∈ news, p.1 ≠ x' := fun p hp => Nat.ne_of_lt (Nat.lt_trans (lx1 p hp) lx2)
  have hxd : x' ≠ d' := Nat.ne_of_gt lx2
  clear lx1
  k_dflt (refine' code_def ?k1 ?k2 ?k3 ?k4 ?k5 ?kA ?kF ?kK ?k6 ?k7 ?k8 ?k9 ?kB ?_ ?c2 ?c3 ?c4 ?c5; (case kA => exact rfl); (case kF => exact rfl); (case kK => exact rfl); (case k1 => k_asm); (case k2 => k_asm); (case k3 => k_asm); (case k4 => k_asm); (case k5 => k_asm); (case k6 => k_is); (case k7 => k_is); (case k8 => ktr_room); (case k9 => first | exact BindsTo.of_eq rfl | exact binds_K (by k_in) rfl (by k_is) rfl rfl rfl); (case c5 => decide); (case kB => exact locs rfl); (case c2 => exact rfl); (case c3 => exact rfl); (case c4 => exact rfl); k_whole; intro g' L' h' FG' F' N' B' X' T'; (try dsimp only); (try k_fold))
  k_steps
  rename_i kF kN _ _
  obtain ⟨r, rfl, rfl, e1, e2, e3, kN⟩ := mk_node kN
  refine hret _ _ _ _ kF (fun q hq => kN q ?_) ⟨r, rfl, e1, e2, e3, fun q hq => ⟨hnx q hq, hnd q hq⟩, rfl⟩
  rcases List.mem_append.mp hq with hq | hq
  · rcases List.mem_append.mp hq with hq | hq
    · obtain ⟨j, hj, rfl⟩ := List.mem_map.mp hq
      exact .head _
    · obtain ⟨j, hj, rfl⟩ := List.mem_map.mp hq
      exact .tail _ (.head _)
  · exact .tail _ (.tail _ hq)

def ext (rec : Nat → NodeC) (n : Nat) (r : NodeC) : Nat → NodeC := fun k => if k = n then r else rec k

section
variable {w : World} {n k v l q : Nat} {rec : Nat → NodeC} {pr nx : Nat → Nat} {rest : Led}
theorem set_prev_at {A : Around} {E : Value → Shared → Prop} {s : Shared} {h₀ : Heap} {L a b : Addr} {m : Str → Option Value} {Q : Unit → Shared → Prop} (hk : k < n) (S : Sep n rec rest)
    (F : Fr h₀ L s.heap m) (X : (hd.heap_39 w.params).In h₀) (N : News h₀ L s.heap (ringL w n rec pr nx ++ rest)) (ha : a = (rec k).a) (hb : b = (rec v).a)
    (h : ∀ h', Fr h₀ L h' m → News h₀ L h' (ringL w n rec (upd pr k v) nx ++ rest) → Q () { s with heap := h', toks := s.toks + 2 }) :
    wpAny (model PySem.Challenge.rw_fc0056_01.row.prog w) A (setAttr (.ref a) (Str.ofString "prev") (.ref b)) Q E s := by
  subst ha hb; exact set_prev hk S F X N h
theorem set_next_at {A : Around} {E : Value → Shared → Prop} {s : Shared} {h₀ : Heap} {L a b : Addr} {m : Str → Option Value} {Q : Unit → Shared → Prop} (hk : k < n) (S : Sep n rec rest)
    (F : Fr h₀ L s.heap m) (X : (hd.heap_39 w.params).In h₀) (N : News h₀ L s.heap (ringL w n rec pr nx ++ rest)) (ha : a = (rec k).a) (hb : b = (rec v).a)
    (h : ∀ h', Fr h₀ L h' m → News h₀ L h' (ringL w n rec pr (upd nx k v) ++ rest) → Q () { s with heap := h', toks := s.toks + 2 }) :
    wpAny (model PySem.Challenge.rw_fc0056_01.row.prog w) A (setAttr (.ref a) (Str.ofString "next") (.ref b)) Q E s := by
  subst ha hb; exact set_next hk S F X N h
theorem ring_ext {h₀ h : Heap} {L : Addr} {r : NodeC} (hin : ∀ k, k < n → pr k < n ∧ nx k < n) (hl : l < n) (hq : q < n)
    (N : News h₀ L h ((r.a, instObj 59 r.d) :: (r.d, dictOf (nodeEs w r (.ref (rec l).a) (.ref (rec q).a)) 10) :: (ringL w n rec pr nx ++ rest))) :
    News h₀ L h (ringL w (n + 1) (ext rec n r) (upd pr n l) (upd nx n q) ++ rest) := fun p hp => N p (by
  have el : ∀ j, j < n → ext rec n r j = rec j := fun j hj => if_neg (Nat.ne_of_lt hj)
  have en : ext rec n r n = r := if_pos rfl
  have pl : ∀ (f : Nat → Nat) z j, j < n → upd f n z j = f j := fun f z j hj => if_neg (Nat.ne_of_lt hj)
  have pn : ∀ (f : Nat → Nat) z, upd f n z n = z := fun f z => if_pos rfl
  rcases List.mem_append.mp hp with hp | hp
  · rcases List.mem_append.mp hp with hp | hp
    · obtain ⟨j, hj, rfl⟩ := List.mem_map.mp hp
      rcases Nat.lt_or_eq_of_le (Nat.le_of_lt_succ (List.mem_range.mp hj)) with h | rfl
      · rw [el j h]; exact .tail _ (.tail _ (ring_o h))
      · rw [en]; exact .head _
    · obtain ⟨j, hj, rfl⟩ := List.mem_map.mp hp
      rcases Nat.lt_or_eq_of_le (Nat.le_of_lt_succ (List.mem_range.mp hj)) with h | rfl
      · rw [el j h, pl pr l j h, pl nx q j h, el _ (hin j h).1, el _ (hin j h).2]; exact .tail _ (.tail _ (ring_d h))
      · rw [en, pn, pn, el l hl, el q hq]; exact .tail _ (.head _)
  · exact .tail _ (.tail _ (List.mem_append_right _ hp)))
theorem sep_ext {r : NodeC} (S : Sep n rec rest) (hf : ∀ p ∈ ringL w n rec pr nx ++ rest, p.1 ≠ r.d) : Sep (n + 1) (ext rec n r) rest := by
  have el : ∀ j, j < n → ext rec n r j = rec j := fun j hj => if_neg (Nat.ne_of_lt hj)
  have en : ext rec n r n = r := if_pos rfl
  refine ⟨fun j k hj hk e => ?_, fun p hp k hk => ?_⟩
  · rcases Nat.lt_or_eq_of_le (Nat.le_of_lt_succ hj) with h | rfl <;> rcases Nat.lt_or_eq_of_le (Nat.le_of_lt_succ hk) with h' | rfl
    · rw [el j h, el k h'] at e; exact S.inj j k h h' e
    · rw [el j h, en] at e; exact absurd e (hf _ (ring_d h))
    · rw [el k h', en] at e; exact absurd e.symm (hf _ (ring_d h'))
    · rfl
  · rcases Nat.lt_or_eq_of_le (Nat.le_of_lt_succ hk) with h | rfl
    · rw [el k h]; exact S.off p hp k h
    · rw [en]; exact hf p (List.mem_append_right _ hp)
end

set_option maxHeartbeats 4000000 in
theorem insert_c {w : World} {mean : ExcName → Option Value} {mg mb : Str → Option Value} {n l : Nat} {rec : Nat → NodeC} {pr nx : Nat → Nat} {rest : Led} {i : Int} {ti : Tok} {pt dp : Addr} {ptk : Nat → Tok} {px py : Int} {ptx pty : Tok}
    (S : Sep n rec rest) (hl : l < n) (hin : ∀ k, k < n → pr k < n ∧ nx k < n) (h1 : (pt, instObj 31 dp) ∈ rest) (h2 : (dp, dictOf (pointEs w ptk px ptx py pty) 2) ∈ rest) :
    Tell 6 w mean mg mb 77 [.int i ti, .ref pt, .ref (rec l).a] (ringL w n rec pr nx ++ rest)
      (fun v n' => ∃ r : NodeC, v = .ref r.a ∧ r.pt = pt ∧ r.x = px ∧ r.y = py ∧ (∀ q ∈ ringL w n rec pr nx ++ rest, q.1 ≠ r.a ∧ q.1 ≠ r.d) ∧
        n' = ringL w (n + 1) (ext rec n r) (upd (upd pr n l) (nx l) n) (upd (upd nx n (nx l)) l n) ++ rest) := by
  have hnl := (hin l hl).2
  unfold Tell
  k_fill
  intro dp' un gd cn cs a ccd cl outer A₀ base h₀ L m s Q E B F X N T hkk hdp hu hret
  refine wpAny_call ?_
  k_dflt ktr_enter
  k_steps
  k_dflt (refine' call_cls ?k1 ?k2 ?k3 ?k4 ?k5 ?k6 ?_; (case k1 => k_asm); (case k2 => k_asm); (case k3 => k_asm); (case k4 => k_is); (case k5 => k_is); (case k6 => k_is); k_whole; intro x' d' hx' Fx' Nx' lx1 lx2)
  have hnd : ∀ p ∈ ringL w n rec pr nx ++ rest, p.1 ≠ d' := fun p hp => Nat.ne_of_lt (lx1 p hp)
  have hnx : ∀ p ∈ ringL w n rec pr nx ++ rest, p.1 ≠ x' := fun p hp => Nat.ne_of_lt (Nat.lt_trans (lx1 p hp) lx2)
  have hxd : x' ≠ d' := Nat.ne_of_gt lx2
  clear lx1
  k_dflt (refine' code_def ?k1 ?k2 ?k3 ?k4 ?k5 ?kA ?kF ?kK ?k6 ?k7 ?k8 ?k9 ?kB ?_ ?c2 ?c3 ?c4 ?c5; (case kA => exact rfl); (case kF => exact rfl); (case kK => exact rfl); (case k1 => k_asm); (case k2 => k_asm); (case k3 => k_asm); (case k4 => k_asm); (case k5 => k_asm); (case k6 => k_is); (case k7 => k_is); (case k8 => ktr_room); (case k9 => first | exact BindsTo.of_eq rfl | exact binds_K (by k_in) rfl (by k_is) rfl rfl rfl); (case c5 => decide); (case kB => exact locs rfl); (case c2 => exact rfl); (case c3 => exact rfl); (case c4 => exact rfl); k_whole; intro g' L' h' FG' F' N' B' X' T'; (try dsimp only); (try k_fold))
  k_steps
  rename_i F9 N9
  obtain ⟨r, rfl, rfl, e1, e2, e3, N9⟩ := mk_node N9
  have N10 := ring_ext hin hl hnl N9
  have S10 : Sep (n + 1) (ext rec n r) rest := sep_ext (w := w) (pr := pr) (nx := nx) S hnd
  have el : ∀ j, j < n → ext rec n r j = rec j := fun j hj => if_neg (Nat.ne_of_lt hj)
  have en : ext rec n r n = r := if_pos rfl
  clear N9
  refine set_prev_at (n := n + 1) (k := nx l) (v := n) (Nat.lt_succ_of_lt hnl) S10 F9 (by assumption) N10 (by rw [el _ hnl]) (by rw [en]) ?_
  intro h11 F11 N11
  have hl1 : l < n + 1 := Nat.lt_succ_of_lt hl
  have hn1 : n < n + 1 := Nat.lt_succ_self n
  clear F9 N10
  k_steps
  refine set_next_at (n := n + 1) (k := l) (v := n) hl1 S10 (by assumption) (by assumption) N11 (by rw [el _ hl]) (by rw [en]) ?_
  intro h12 F12 N12
  clear N11 F11
  k_steps
  exact hret _ _ _ _ (by assumption) (by assumption) ⟨r, rfl, e1, e2, e3, fun q hq => ⟨hnx q hq, hnd q hq⟩, rfl⟩
end Mine
end

theorem Mine.calm_C7 : True := by
  w_top off
  trivial
section
open PySem PySem.W PyProof.Rows
set_option maxRecDepth 100000
local macro_rules | `(tactic| bits_by_make) => `(tactic| with_reducible assumption)
namespace Mine
def Pt.Small (p : Pt) : Prop := Builtin.Int.intBits p.1 ≤ 1100000 ∧ Builtin.Int.intBits p.2 ≤ 1100000

theorem turn_c {w : World} {mean : ExcName → Option Value} {mg mb : Str → Option Value} {news : Led} {a b c : Addr} {ax ay bx by' cx cy : Int} {t1 t2 t3 t4 t5 t6 : Tok} {k1 k2 k3 : Nat}
    (ha : (a, tupO ax t1 ay t2 k1) ∈ news) (hb : (b, tupO bx t3 by' t4 k2) ∈ news) (hc : (c, tupO cx t5 cy t6 k3) ∈ news)
    (sa : Pt.Small (ax, ay)) (sb : Pt.Small (bx, by')) (sc : Pt.Small (cx, cy)) :
    Tell 2 w mean mg mb 99 [.ref a, .ref b, .ref c] news (fun v n' => n' = news ∧ ∃ t, v = .int (crs (ax, ay) (bx, by') (cx, cy)) t) := by
  obtain ⟨sax, say⟩ := sa
  obtain ⟨sbx, sby⟩ := sb
  obtain ⟨scx, scy⟩ := sc
  dsimp only at sax say sbx sby scx scy
  unfold Tell
  k_fill
  intro dp un gd cn cs a' ccd cl outer A₀ base h₀ L m s Q E B F X N T hk hdp hu hret
  refine wpAny_call ?_
  k_dflt ktr_enter
  k_steps
  exact hret _ news _ _ (by assumption) (by assumption) ⟨rfl, _, rfl⟩
end Mine
end

theorem Mine.calm_C6 : True := by
  w_top off
  trivial
section
open PySem PySem.W PyProof.Rows
set_option maxRecDepth 100000
local macro_rules | `(tactic| k_mem) => `(tactic| first | with_reducible assumption | with_reducible exact Mine.ring_o (by with_reducible assumption) | with_reducible exact Mine.ring_d (by with_reducible assumption) | with_reducible exact List.mem_cons_self | (with_reducible refine List.mem_cons_of_mem _ ?_; k_mem) | (with_reducible refine List.mem_append_right _ ?_; k_mem) | (with_reducible refine List.mem_append_left _ ?_; k_mem))
local macro_rules | `(tactic| walk_at "exec Assign cons ListComp") => `(tactic| refine Mine.Halt.mk ?_)
local macro_rules | `(tactic| walk_at "CompSrcT") => `(tactic| refine Mine.Halt.mk ?_)
local macro_rules | `(tactic| walk_at "pyIter ref") => `(tactic| refine Mine.Halt.mk ?_)
local macro_rules | `(tactic| k_all) => `(tactic| assumption)
namespace Mine
def ptsV (n : Nat) (rec : Nat → NodeC) : List Value := (List.range n).map fun k => .ref (rec k).pt

/-- what the reading of a ring's names asks of the ledger -/
structure Asked (n : Nat) (rec : Nat → NodeC) (rest : Led) (pl rl : Addr) (kp kr : Nat) (vs : List Value) : Prop where
  pts : (pl, listO (ptsV n rec) kp) ∈ rest
  ring : (rl, listO vs kr) ∈ rest
  len : vs.length = n
  tup : ∀ k, k < n → ∃ a t u j, vs[k]? = some (.ref a) ∧ (a, tupO (rec k).x t (rec k).y u j) ∈ rest
  pt : ∀ k, k < n → ∃ d, ((rec k).pt, instObj 31 d) ∈ rest
  inj : ∀ j k, j < n → k < n → (rec j).pt = (rec k).pt → j = k

set_option maxHeartbeats 4000000 in
theorem names_c {w : World} {mean : ExcName → Option Value} {mg mb : Str → Option Value} {n p : Nat} {t : List Nat} {rec : Nat → NodeC} {pr nx : Nat → Nat} {rest : Led} {pl rl : Addr} {kp kr : Nat} {vs : List Value}
    (S : Sep n rec rest) (K : Asked n rec rest pl rl kp kr vs) (hn : n ≤ 1000) (hc : Cyc nx pr (p :: t)) (nd : (p :: t).Nodup) (lt : ∀ x ∈ p :: t, x < n) :
    Tell 6 w mean mg mb 118 [.ref (rec p).a, .ref pl, .ref rl] (ringL w n rec pr nx ++ rest)
      (fun v n' => ∃ a us k, v = .ref a ∧ IntsAre us ((p :: t).map Int.ofNat) ∧ n' = (a, listO us k) :: (ringL w n rec pr nx ++ rest)) := by
  unfold Tell
  k_fill
  intro dp un gd cn cs a ccd cl outer A₀ base h₀ L m s Q E B F X N T hkk hdp hu hret
  refine wpAny_call ?_
  k_dflt (refine' code_defC ?k1 ?k2 ?k3 ?k4 ?k5 ?kA ?kF ?kK ?k6 ?k7 ?k8 ?k9 ?kB ?kD ?_ ?c2 ?c3 ?c4; (case kA => exact rfl); (case kF => exact rfl); (case kK => assumption); (case k1 => k_asm); (case k2 => k_asm); (case k3 => k_asm); (case k4 => k_asm); (case k5 => k_asm); (case k6 => k_is); (case k7 => k_is); (case k8 => ktr_room); (case k9 => first | exact BindsTo.of_eq rfl | exact binds_K (by k_in) rfl (by k_is) rfl rfl rfl); (case kB => exact rfl); (case kD => decide +kernel); (case c2 => exact rfl); (case c3 => exact rfl); (case c4 => exact rfl); k_whole; intro g' L' h' tk' cells' FG' F' N' Y' B' X' T' l1; k_cells Y'; (try simp only [List.cons_append, List.nil_append] at N'); (try dsimp only); (try k_fold))
  have al0 := allLt_of l1
  have al1 : AllLt (L' + 1) (ringL w n rec pr nx ++ rest) := tbn_up (Nat.lt_succ_self _) al0
  have al2 : AllLt (L' + 1 + 1) (ringL w n rec pr nx ++ rest) := tbn_up (Nat.lt_succ_self _) al1
  have hL0 : ∀ q ∈ ringL w n rec pr nx ++ rest, q.1 < L' := l1
  clear l1
  have hpl := K.pts
  have hrl := K.ring
  have hnn : (ptsV n rec).length = n := by simp [ptsV]
  k_steps
  k_dflt (refine' len_led (n := n) (k := kp) ?k1 ?k2 hnn (by omega) ?_; (case k1 => k_asm); (case k2 => k_mem))
  k_steps
  refine Halt.out ?_
  rename_i o1 oP d1 dP l' hh1 l1 hh2 hh3 oN F0 N0 dN hh4 tkk t1 u1 v1 hR F1 N1 kp1
  clear al0 al1 al2
  have hl0 : ∀ q ∈ ringL w n rec pr nx ++ rest, q.1 < l' := tb_ltOf l1.2.2
  have lN : l' ≠ L' + 1 + 1 := Nat.ne_of_gt l1.1
  have lP : l' ≠ L' + 1 := Nat.ne_of_gt l1.2.1
  k_dflt (refine range_up (n := n) (fun i m nx' => ∃ us k oN dn cur td, m (Str.ofString "start") = some (.ref (rec p).a) ∧ m (Str.ofString "ring") = some (.ref rl) ∧ m (Str.ofString "names") = some (.ref l') ∧ nx' = (l', listO us k) :: (L' + 1 + 1, oN) :: (L' + 1, oP) :: (ringL w n rec pr nx ++ rest) ∧ oN.data = Data.cell (some (.ref (rec cur).a)) ∧ IntsAre us (dn.map Int.ofNat) ∧ (p :: t) = (dn ++ cur :: td) ∧ (List.length dn) = i) rfl hR (by omega) F1 N1 ⟨[], 0, oN, [], p, t, rfl, rfl, rfl, rfl, dN, .nil, rfl, rfl⟩ ?_ ?_)
  · rintro i ti m₁ nx' h₁ tk₁ own hi ho ⟨us, k, oC, dn, cur, td, m1, m2, m3, rfl, dC, iu, el, hl⟩ F₂ N₂
    rw [three_names m1 m2 m3] at F₂
    simp only [List.cons_append] at N₂
    have hcm : cur ∈ p :: t := by rw [el]; simp
    have hcur : cur < n := lt _ hcm
    have hnx : nx cur < n := lt _ (hc.mem_nx hcm).1
    have hback : pr (nx cur) = cur := hc.back hcm
    have dP' : oP.data = Data.cell (some (.ref pl)) := dP
    clear dP d1 F0 N0 F1 N1 hR kp1 dN l1
    change Fr g' L' h₁ _ at F₂
    change News g' L' h₁ _ at N₂
    have f1 : ∀ q ∈ ringL w n rec pr nx ++ rest ++ own, q.1 ≠ l' := fun q hq => by
      rcases List.mem_append.mp hq with hq | hq
      · exact Nat.ne_of_lt (hl0 q hq)
      · exact ho q hq l' (by simp)
    have f2 : ∀ q ∈ ringL w n rec pr nx ++ rest ++ own, q.1 ≠ L' + 1 + 1 := fun q hq => by
      rcases List.mem_append.mp hq with hq | hq
      · exact Nat.ne_of_lt (Nat.lt_succ_of_lt (Nat.lt_succ_of_lt (hL0 q hq)))
      · exact ho q hq (L' + 1 + 1) (by simp)
    k_steps
    refine Halt.out ?_
    k_dflt (refine LCt.Assign_ListComp_T (F₀ := F₂) (by rfl) (by with_unfolding_all rfl) (by with_unfolding_all rfl) (by decide) (by rfl) (by decide) (by rfl) (by rfl) (by rfl) ?_)
    k_steps
    k_dflt (refine' len_led (n := n) (k := kp) ?k1 ?k2 hnn (by omega) ?_; (case k1 => k_asm); (case k2 => k_mem))
    k_steps
    refine Halt.out ?_
    rename_i h5 t5 u5 v5 hR F5 N5 kp5
    refine LCt.CompSrcT.range (n := n) rfl F5 N5 hR (small_one (by omega) (by omega) (by omega) (by omega)) (by rw [rangeSize_nat]; simp) (by rw [PySem.sizeLine_eq]; omega) ?_
    intro g9
    refine restT (fun i ys nw => nw = ((l', listO us k) :: (L' + 1 + 1, oC) :: (L' + 1, oP) :: (ringL w n rec pr nx ++ rest ++ own)) ∧ IntsAre ys (((List.range i).filter (fun j => decide (j = cur))).map Int.ofNat)) ⟨rfl, .nil⟩ ?_ ?_
    · rintro j ys nw v I oI Cc oCc D m₂ h₇ tk₇ E' hj ⟨t₇, rfl⟩ ⟨rfl, iy⟩ hC hx F₇ N₇ off ne
      have e0 : (0 : Int) + (j : Int) = (j : Int) := by omega
      rw [e0] at hx
      clear N5 F5 hR
      k_steps
      k_dflt (refine item_led (vs := ptsV n rec) (n := kp) (v := .ref (rec j).pt) N₇ (by k_mem) (by omega) (by omega) (by simp [ptsV, hj]) ?_)
      k_steps
      obtain ⟨dj, hdj⟩ := K.pt j hj
      obtain ⟨dc, hdc⟩ := K.pt cur hcur
      by_cases hjc : j = cur
      · subst hjc
        refine wpAny_is_ref_self ?_
        k_steps
        refine LCg.CompEnd.intro F₇ N₇ _ (fun p hp => hp) off trivial ⟨rfl, ?_⟩
        rw [List.range_succ, List.filter_append, List.map_append]
        refine IntsAre.append iy ?_
        simp only [List.filter_cons, decide_true, if_true, List.filter_nil, List.map_cons, List.map_nil]
        exact .cons _ _ .nil
      · refine wpAny_is_ref_other (fun q => hjc (K.inj _ _ hj hcur q)) (N₇.get (by k_mem)) (N₇.get (by k_mem)) (by intro q; cases q) ?_
        k_steps
        refine LCg.CompEnd.intro F₇ N₇ _ (fun p hp => hp) off trivial ⟨rfl, ?_⟩
        rw [List.range_succ, List.filter_append, List.map_append]
        simp only [List.filter_cons, decide_eq_false hjc, Bool.false_eq_true, if_false, List.filter_nil, List.map_nil, List.append_nil]
        exact iy
    · rintro ys nw ⟨rfl, iy⟩
      rw [filter_one hcur] at iy
      simp only [List.map_cons, List.map_nil] at iy
      intro D h₈ tk₈ F₈ N₈ off
      cases iy with
      | cons _ tc iy =>
      cases iy
      k_steps
      simp only [hback]
      refine wpAny_isNot_ref_self ?_
      k_steps
      obtain ⟨at', ta, ua, ja, hv, hm⟩ := K.tup cur hcur
      k_dflt (refine' item_led (vs := vs) (n := kr) (v := .ref at') ?k1 ?k2 (by show (0 : Int) ≤ (cur : Int); omega) (by show (cur : Int) < 2 ^ 63; omega) ?k3 ?_; (case k1 => k_asm); (case k2 => k_mem); (case k3 => simpa using hv))
      k_steps
      rename_i tq
      k_dflt (refine append_led (vs := us) (k := k) ((L' + 1 + 1, oC) :: (L' + 1, oP) :: (ringL w n rec pr nx ++ rest ++ own)) (by k_asm) (by k_asm) (by k_mem) ?_ ?_ ?_)
      · intro q hq
        simp only [List.mem_cons] at hq
        rcases hq with rfl | rfl | hq
        · exact ⟨by k_mem, Ne.symm lN⟩
        · exact ⟨by k_mem, Ne.symm lP⟩
        · exact ⟨by k_mem, f1 q hq⟩
      · have := iu.length
        rw [List.length_map] at this
        omega
      intro h9 F9 N9
      k_steps
      rename_i o10 F10 N10 d10
      have hp0 : p < n := lt _ (by simp)
      have Nr : News g' L' _ (ringL w n rec pr nx ++ rest) := fun q hq => N10 q (by
        refine List.mem_cons_of_mem _ (List.mem_cons_of_mem _ (List.mem_cons_of_mem _ (List.mem_append_left _ hq))))
      refine is_ring Nr S hnx hp0 ?_
      have iu' : IntsAre (us ++ [Value.int ([Int.ofNat cur].getD (Int.toNat 0) 0) tq]) ((dn ++ [cur]).map Int.ofNat) := by
        rw [List.map_append]
        exact IntsAre.append iu (.cons _ _ .nil)
      cases td with
      | nil =>
        rw [decide_eq_true (hc.last el)]
        clear Nr
        k_steps
        rename_i kN _ _
        refine hret _ _ _ _ (by assumption) (fun q hq => kN q ?_) ⟨l', us ++ [Value.int ([Int.ofNat cur].getD (Int.toNat 0) 0) tq], k + 1, rfl, el ▸ iu', rfl⟩
        rcases List.mem_cons.mp hq with rfl | hq
        · exact .head _
        · exact List.mem_cons_of_mem _ (List.mem_cons_of_mem _ (List.mem_cons_of_mem _ (List.mem_append_left _ hq)))
      | cons c' td =>
        obtain ⟨e1, e2⟩ := hc.mid nd el
        rw [decide_eq_false (by rw [e1]; exact e2)]
        clear Nr
        k_steps
        refine InvEndG.intro F10 N10 ⟨us ++ [Value.int ([Int.ofNat cur].getD (Int.toNat 0) 0) tq], k + 1, o10, dn ++ [cur], c', td, rfl, rfl, rfl, rfl, by rw [d10, e1], iu', by rw [el]; simp, by simp [hl]⟩ ?_ ?_ ?_
        · exact ho
        · intro q hq
          rcases List.mem_cons.mp hq with rfl | hq
          · exact .head _
          · rcases List.mem_cons.mp hq with rfl | hq
            · exact .tail _ (.head _)
            · rcases List.mem_cons.mp hq with rfl | hq
              · exact .tail _ (.tail _ (.head _))
              · exact .tail _ (.tail _ (.tail _ (List.mem_append_left _ hq)))
        · intro q hq
          exact .tail _ (.tail _ (.tail _ (List.mem_append_right _ hq)))
  · rintro m₁ nx' h₁ tk₁ ⟨us, k, oC, dn, cur, td, _, _, _, rfl, _, _, el, hl⟩ _ _
    exfalso
    have := nodup_len nd lt
    rw [el] at this
    simp only [List.length_append, List.length_cons] at this
    omega
end Mine
end

theorem Mine.calm_C8 : True := by
  w_top off
  trivial
section
open PySem PySem.W PyProof.Rows
set_option maxRecDepth 100000
local macro_rules | `(tactic| k_mem) => `(tactic| first | with_reducible assumption | with_reducible exact Mine.ring_o (by with_reducible assumption) | with_reducible exact Mine.ring_d (by with_reducible assumption) | with_reducible exact List.mem_cons_self | (with_reducible refine List.mem_cons_of_mem _ ?_; k_mem) | (with_reducible refine List.mem_append_right _ ?_; k_mem) | (with_reducible refine List.mem_append_left _ ?_; k_mem))
local macro_rules | `(tactic| k_all) => `(tactic| assumption)
local macro_rules | `(tactic| walk_at "exec While") => `(tactic| refine Mine.Halt.mk ?_)
local macro_rules | `(tactic| walk_at "subscriptTail Name Slice ref ref") => `(tactic| refine Mine.Halt.mk ?_)
local macro_rules | `(tactic| walk_at "binaryOp Add ref ref") => `(tactic| refine Mine.Halt.mk ?_)
local macro_rules | `(tactic| walk_at "pyIter ref") => `(tactic| refine Mine.Halt.mk ?_)
namespace Mine
def tv (ta : Nat → Addr) (i : Nat) : Value := .ref (ta i)
theorem get_tv {ta : Nat → Addr} {l : List Nat} {i : Nat} (h : i < l.length) : (l.map (tv ta))[i]? = some (.ref (ta (l.getD i 0))) := by
  rw [List.getElem?_map, List.getElem?_eq_getElem h]
  simp [tv, List.getD_eq_getElem?_getD, h]
theorem getD_mem {l : List Nat} {i : Nat} (h : i < l.length) : l.getD i 0 ∈ l := by
  rw [List.getD_eq_getElem?_getD, List.getElem?_eq_getElem h]; exact List.getElem_mem h
theorem bef_lt {n j : Nat} (h : j < n) : bef n j < n := by unfold bef; split <;> omega
theorem aft_lt {n j : Nat} (h : j < n) : aft n j < n := Nat.mod_lt _ (by omega)
def Tups (n : Nat) (ta : Nat → Addr) (P : Nat → Pt) (news : Led) : Prop := ∀ i, i < n → ∃ t u j, (ta i, tupO (P i).1 t (P i).2 u j) ∈ news

set_option maxHeartbeats 4000000 in
theorem reduced_c {w : World} {mean : ExcName → Option Value} {mg mb : Str → Option Value} {news : Led} {n kr : Nat} {ta : Nat → Addr} {P : Nat → Pt} {rl : Addr}
    (hr : (rl, listO ((List.range n).map (tv ta)) kr) ∈ news) (ht : Tups n ta P news) (sm : ∀ i, i < n → Pt.Small (P i)) (hn0 : 1 ≤ n) (hn : n ≤ 1000) :
    Tell 8 w mean mg mb 106 [.ref rl] news
      (fun v n' => ∃ a l k, v = .ref a ∧ n' = (a, listO (l.map (tv ta)) k) :: news ∧ RR P (List.range n) l ∧ Nf P l) := by
  unfold Tell
  k_fill
  intro dp un gd cn cs a ccd cl outer A₀ base h₀ L m s Q E B F X N T hkk hdp hu hret
  refine wpAny_call ?_
  k_dflt (refine' code_def ?k1 ?k2 ?k3 ?k4 ?k5 ?kA ?kF ?kK ?k6 ?k7 ?k8 ?k9 ?kB ?_ ?c2 ?c3 ?c4 ?c5; (case kA => exact rfl); (case kF => exact rfl); (case kK => assumption); (case k1 => k_asm); (case k2 => k_asm); (case k3 => k_asm); (case k4 => k_asm); (case k5 => k_asm); (case k6 => k_is); (case k7 => k_is); (case k8 => ktr_room); (case k9 => first | exact BindsTo.of_eq rfl | exact binds_K (by k_in) rfl (by k_is) rfl rfl rfl); (case c5 => decide); (case kB => exact locs rfl); (case c2 => exact rfl); (case c3 => exact rfl); (case c4 => exact rfl); k_whole; intro g' L' h' FG' F' N' B' X' T'; (try dsimp only); (try k_fold))
  k_steps
  refine Halt.out ?_
  rename_i F1 N1
  refine While_inv2 (fun μ m nx' => ∃ a l k ag, m (Str.ofString "left") = some (.ref a) ∧ m (Str.ofString "again") = some (.bool ag) ∧ nx' = (a, listO (l.map (tv ta)) k) :: news ∧ RR P (List.range n) l ∧ (ag = false → Nf P l) ∧ μ = 2 * l.length + (if ag = true then 1 else 0)) F1
    (show News _ _ _ ((rl, listO ((List.range n).map (tv ta)) kr) :: news) from fun q hq => N1 q (by rcases List.mem_cons.mp hq with rfl | hq; exact hr; exact hq))
    ⟨rl, List.range n, kr, true, by rfl, by rfl, rfl, .refl _, (fun h => nomatch h), rfl⟩ ?_ (by first | passes_own | with_unfolding_all passes_own)
  rintro μ m₁ news₁ h₁ tk₁ F₁ N₁ ⟨a₁, l₁, k₁, ag, m1, m2, rfl, rr, hnf, rfl⟩
  rw [two_names m1 m2] at F₁
  have hsub := rr.sub
  have hlen := rr.len
  rw [List.length_range] at hlen
  clear N1 F1
  k_steps
  rotate_left
  · rename_i hag kF kN _ _
    exact hret _ _ _ _ kF kN ⟨a₁, l₁, k₁, rfl, rfl, rr, hnf hag⟩
  rename_i hag _ _ _
  subst hag
  clear hnf
  have hll : (l₁.map (tv ta)).length = l₁.length := List.length_map ..
  k_dflt (refine' len_led (vs := l₁.map (tv ta)) (k := k₁) (n := l₁.length) ?k1 ?k2 hll (by omega) ?_; (case k1 => k_asm); (case k2 => k_mem))
  k_steps
  refine Halt.out ?_
  rename_i hh5 tkk t5 u5 v5 hR F5 N5 kp5
  k_dflt (refine range_down (n := l₁.length) (fun i m nx' => ∃ a l k ag, m (Str.ofString "left") = some (.ref a) ∧ m (Str.ofString "again") = some (.bool ag) ∧ nx' = (a, listO (l.map (tv ta)) k) :: news ∧ RR P (List.range n) l ∧ l₁.length ≤ l.length + i ∧ l.length ≤ l₁.length ∧ (ag = true → l.length < l₁.length) ∧ (ag = false → l = l₁ ∧ ∀ j, l₁.length ≤ j + i → j < l₁.length → 1 < l₁.length → turnAt P l₁ j ≠ 0)) rfl hR (by omega) F5 N5 ⟨a₁, l₁, k₁, false, rfl, rfl, rfl, rr, by omega, by omega, (fun h => nomatch h), fun _ => ⟨rfl, fun j h1 h2 => by omega⟩⟩ ?_ ?_)
  · rintro i ti m₃ nx' h₃ tk₃ own hi ho ⟨a, l, k, ag, q1, q2, rfl, r, hle1, hle2, hag1, hag2⟩ F₃ N₃
    rw [two_names q1 q2] at F₃
    simp only [List.cons_append] at N₃
    clear F5 N5 hR kp5
    change Fr g' L' h₃ _ at F₃
    change News g' L' h₃ _ at N₃
    have hll' : (l.map (tv ta)).length = l.length := List.length_map ..
    have hl0 : l.length ≠ 0 := by simpa using r.ne (by simp; omega)
    k_steps
    k_dflt (refine' len_led (vs := l.map (tv ta)) (k := k) (n := l.length) ?k1 ?k2 hll' (by omega) ?_; (case k1 => k_asm); (case k2 => k_mem))
    k_steps
    rotate_left
    · rename_i h1
      refine InvEndG.intro F₃ N₃ ⟨a, l, k, ag, rfl, rfl, rfl, r, by omega, hle2, hag1, fun e => ⟨(hag2 e).1, fun j g1 g2 g3 => ?_⟩⟩ ho (fun q hq => ?_) (fun q hq => List.mem_cons_of_mem _ (List.mem_append_right _ hq))
      · have := (hag2 e).1
        subst this
        omega
      · rcases List.mem_cons.mp hq with rfl | hq
        · exact .head _
        · exact .tail _ (List.mem_append_left _ hq)
    · rename_i h1
      have h1' : 1 < l.length := by omega
      have hj : l₁.length - 1 - i < l.length := by omega
      generalize hjj : l₁.length - 1 - i = j at *
      have hb := bef_lt hj
      have haf := aft_lt hj
      have hlt : ∀ z, z < l.length → l.getD z 0 < n := fun z hz => List.mem_range.mp (r.sub _ (getD_mem hz))
      obtain ⟨ub, vb, jb, mb'⟩ := ht _ (hlt _ hb)
      obtain ⟨uj, vj, jj, mj'⟩ := ht _ (hlt _ hj)
      obtain ⟨uf, vf, jf, mf'⟩ := ht _ (hlt _ haf)
      k_dflt (refine' item_before (j := j) (vs := l.map (tv ta)) (k := k) (v := .ref (ta (l.getD (bef l.length j) 0))) ?k1 ?k2 rfl (by omega) (by omega) (by rw [hll']; exact get_tv hb) ?_; (case k1 => k_asm); (case k2 => k_mem))
      k_steps
      k_dflt (refine' item_led (vs := l.map (tv ta)) (n := k) (v := .ref (ta (l.getD j 0))) ?k1 ?k2 (by omega) (by omega) (get_tv hj) ?_; (case k1 => k_asm); (case k2 => k_mem))
      k_steps
      k_dflt (refine' len_led (vs := l.map (tv ta)) (k := k) (n := l.length) ?k1 ?k2 hll' (by omega) ?_; (case k1 => k_asm); (case k2 => k_mem))
      k_steps
      have em : ((j : Int) + 1).fmod (l.length : Int) = ((aft l.length j : Nat) : Int) := by
        unfold aft
        rw [Int.fmod_eq_emod_of_nonneg _ (by omega)]
        exact (Int.natCast_emod (j + 1) l.length).symm
      simp only [em]
      k_dflt (refine' item_led (vs := l.map (tv ta)) (n := k) (v := .ref (ta (l.getD (aft l.length j) 0))) ?k1 ?k2 (by omega) (by omega) (get_tv haf) ?_; (case k1 => k_asm); (case k2 => k_mem))
      k_steps
      k_dflt (refine turn_c (List.mem_cons_of_mem _ (List.mem_append_left _ mb')) (List.mem_cons_of_mem _ (List.mem_append_left _ mj')) (List.mem_cons_of_mem _ (List.mem_append_left _ mf')) (sm _ (hlt _ hb)) (sm _ (hlt _ hj)) (sm _ (hlt _ haf)) _ _ _ _ _ _ _ _ _ _ _ _ _ _ _ _ _ B' (by assumption) X' (by assumption) T' rfl (by show dp + 1 + 2 < recursionLimit; omega) (by show un + 3 + 40 < cLine; omega) ?_)
      rintro v news' h₄ tk₄ F₄ N₄ ⟨rfl, t₄, rfl⟩
      k_steps
      rotate_left
      · rename_i hne
        have hne' : turnAt P l j ≠ 0 := hne
        refine InvEndG.intro F₄ N₄ ⟨a, l, k, ag, rfl, rfl, rfl, r, by omega, hle2, hag1, fun e => ⟨(hag2 e).1, fun j' g1 g2 g3 => ?_⟩⟩ ho (fun q hq => ?_) (fun q hq => List.mem_cons_of_mem _ (List.mem_append_right _ hq))
        · obtain ⟨c1, c2⟩ := hag2 e
          subst c1
          by_cases e' : j' = j
          · subst e'; exact hne'
          · exact c2 j' (by omega) g2 g3
        · rcases List.mem_cons.mp hq with rfl | hq
          · exact .head _
          · exact .tail _ (List.mem_append_left _ hq)
      · rename_i hz
        have hz' : turnAt P l j = 0 := hz
        refine Halt.out ?_
        k_dflt (refine' slice_upto (vs := l.map (tv ta)) (k := k) ?k1 ?k2 ?k3 (by omega) (by omega) ?_ ?s ?t; (case k1 => k_asm); (case k2 => k_asm); (case k3 => k_mem); (case s => with_unfolding_all rfl); (case t => (intro _; with_unfolding_all rfl)))
        intro D h₅ F₅ N₅ lD
        k_steps
        refine Halt.out ?_
        k_dflt (refine' slice_from (vs := l.map (tv ta)) (k := k) ?k1 ?k2 ?k3 (by omega) (by omega) ?_ ?s ?t; (case k1 => k_asm); (case k2 => k_asm); (case k3 => k_mem); (case s => with_unfolding_all rfl); (case t => (intro _; with_unfolding_all rfl)))
        intro D2 h₆ F₆ N₆ lD2
        k_steps
        refine Halt.out ?_
        refine add_led F₆ N₆ (.tail _ (.head _)) (.head _) (by rw [List.length_take, List.length_drop]; omega) ?_
        intro D3 h₇ F₇ N₇ lD3
        have e1 : ((j : Int)).toNat = j := by omega
        have e2 : ((j : Int) + 1).toNat = j + 1 := by omega
        rw [e1, e2, ← List.map_take, ← List.map_drop, ← List.map_append] at N₇
        have hcut := cut_idx r h1' hj hz'
        have hlc : (l.take j ++ l.drop (j + 1)).length + 1 = l.length := by
          rw [List.length_append, List.length_take, List.length_drop]; omega
        generalize l.take j ++ l.drop (j + 1) = lc at *
        k_steps
        refine InvEndG.intro (by assumption) (by assumption) ⟨D3, lc, 0, true, rfl, rfl, rfl, hcut, by omega, by omega, fun _ => by omega, fun h => nomatch h⟩ ?_ (fun q hq => ?_) (fun q hq => ?_)
        · intro p hp b hb e
          rcases List.mem_cons.mp hb with rfl | hb
          · have := lD3 p (List.mem_cons_of_mem _ (List.mem_cons_of_mem _ (List.mem_cons_of_mem _ (List.mem_append_right _ hp))))
            exact absurd e (Nat.ne_of_lt this)
          · exact ho p hp b (List.mem_cons_of_mem _ hb) e
        · rcases List.mem_cons.mp hq with rfl | hq
          · exact .head _
          · exact .tail _ (.tail _ (.tail _ (.tail _ (List.mem_append_left _ hq))))
        · exact .tail _ (.tail _ (.tail _ (.tail _ (List.mem_append_right _ hq))))
  · rintro m₃ nx' h₃ tk₃ ⟨a, l, k, ag, q1, q2, rfl, r, hle1, hle2, hag1, hag2⟩ F₃ N₃
    have hl1 : (if ag = true then 1 else 0) + 2 * l.length < 2 * l₁.length + 1 := by
      cases ag with
      | true => have := hag1 rfl; simp; omega
      | false => simp; omega
    k_steps
    refine ⟨h₃, tk₃, m₃, _, _, rfl, F₃, N₃, ?_, a, l, k, ag, q1, q2, rfl, r, fun e => ?_, rfl⟩
    · rw [Nat.add_comm]; simpa using hl1
    · obtain ⟨rfl, c2⟩ := hag2 e
      exact nf_of_idx fun j g1 g2 => c2 j (by omega) g1 g2
end Mine
end

theorem Mine.calm_C9 : True := by
  w_top off
  trivial
section
open PySem PySem.W PyProof.Rows
set_option maxRecDepth 100000
local macro_rules | `(tactic| k_mem) => `(tactic| first | with_reducible assumption | with_reducible exact Mine.ring_o (by with_reducible assumption) | with_reducible exact Mine.ring_d (by with_reducible assumption) | with_reducible exact List.mem_cons_self | (with_reducible refine List.mem_cons_of_mem _ ?_; k_mem) | (with_reducible refine List.mem_append_right _ ?_; k_mem) | (with_reducible refine List.mem_append_left _ ?_; k_mem))
local macro_rules | `(tactic| k_all) => `(tactic| assumption)
local macro_rules | `(tactic| walk_at "exec For Name Subscript cons nil") => `(tactic| refine Mine.Halt.mk ?_)
local macro_rules | `(tactic| walk_at "eval IfExp") => `(tactic| refine Mine.Halt.mk ?_)
local macro_rules | `(tactic| walk_at "pyIter ref") => `(tactic| refine Mine.Halt.mk ?_)
local macro_rules | `(tactic| bits_by_make) => `(tactic| with_reducible assumption)
namespace Mine

/-- what stands between the turns of the ring's building -/
def RJ (rl D : Addr) (ws : List Value) (news : Led) (i : Nat) (m : Str → Option Value) (nx : Led) : Prop :=
  ∃ ta P k tl, m (Str.ofString "ring") = some (.ref rl) ∧ nx = (rl, listO ((List.range (i + 1)).map (tv ta)) k) :: (D, listO ws 0) :: (tl ++ news) ∧ Tups (i + 1) ta P tl ∧
    (∀ j, j < i + 1 → Builtin.Int.intBits (P j).1 ≤ 1048576 + 5 * i ∧ Builtin.Int.intBits (P j).2 ≤ 1048576 + 5 * i) ∧ (∀ p ∈ tl, p.1 ≠ rl ∧ ∀ q ∈ news, p.1 ≠ q.1)

theorem get_rng {ta : Nat → Addr} {n j : Nat} (h : j < n) : ((List.range n).map (tv ta))[j]? = some (.ref (ta j)) := by simp [tv, h]

theorem ring_end {g h : Heap} {L rl D ad : Addr} {ws : List Value} {ta : Nat → Addr} {P : Nat → Pt} {k i : Nat} {tl tl' news own : Led} {x y : Int} {t u : Tok} {j : Nat} {m' : Str → Option Value} {s₁ : Shared} {tk : Nat}
    (F : Fr g L h m') (N : News g L h ((rl, listO ((List.range (i + 1)).map (tv ta) ++ [.ref ad]) (k + 1)) :: (D, listO ws 0) :: (tl' ++ news ++ own))) (hm : m' (Str.ofString "ring") = some (.ref rl))
    (ht : Tups (i + 1) ta P tl) (hsub : ∀ p ∈ tl, p ∈ tl') (had : (ad, tupO x t y u j) ∈ tl')
    (hb : ∀ j, j < i + 1 → Builtin.Int.intBits (P j).1 ≤ 1048576 + 5 * i ∧ Builtin.Int.intBits (P j).2 ≤ 1048576 + 5 * i) (hx : Builtin.Int.intBits x ≤ 1048576 + 5 * (i + 1)) (hy : Builtin.Int.intBits y ≤ 1048576 + 5 * (i + 1))
    (hoff : ∀ p ∈ tl', p.1 ≠ rl ∧ ∀ q ∈ news, p.1 ≠ q.1) (ho : OwnOff own (rl :: D :: (tl' ++ news).map (·.1))) :
    InvEndG g L (fun m' nx => (D, W.listOf ws.toArray 0) ∈ nx ∧ RJ rl D ws news (i + 1) m' nx) own s₁ { s₁ with heap := h, toks := tk } := by
  have e1 : (List.range (i + 1 + 1)).map (tv fun z => if z = i + 1 then ad else ta z) = (List.range (i + 1)).map (tv ta) ++ [.ref ad] := by
    rw [List.range_succ, List.map_append]
    congr 1
    · apply List.map_congr_left
      intro z hz
      have : z ≠ i + 1 := Nat.ne_of_lt (List.mem_range.mp hz)
      simp [tv, this]
    · simp [tv]
  refine InvEndG.intro F N ⟨.tail _ (.head _), fun z => if z = i + 1 then ad else ta z, fun z => if z = i + 1 then (x, y) else P z, k + 1, tl', hm, by rw [e1], ?_, ?_, hoff⟩ ?_ (fun q hq => ?_) (fun q hq => .tail _ (.tail _ (List.mem_append_right _ hq)))
  · intro z hz
    by_cases e : z = i + 1
    · subst e
      refine ⟨t, u, j, ?_⟩
      simp only [if_true]
      exact had
    · obtain ⟨t', u', j', h'⟩ := ht z (by omega)
      refine ⟨t', u', j', ?_⟩
      simp only [if_neg e]
      exact hsub _ h'
  · intro z hz
    by_cases e : z = i + 1
    · subst e
      simp only [if_true]
      exact ⟨hx, hy⟩
    · simp only [if_neg e]
      have := hb z (by omega)
      omega
  · exact ho
  · rcases List.mem_cons.mp hq with rfl | hq
    · exact .head _
    · rcases List.mem_cons.mp hq with rfl | hq
      · exact .tail _ (.head _)
      · exact .tail _ (.tail _ (List.mem_append_left _ hq))

set_option maxHeartbeats 4000000 in
theorem ring_c {w : World} {mean : ExcName → Option Value} {mg mb : Str → Option Value} {news : Led} {sl : Addr} {vs : List Value} {ns : List Int} (hi : IntsAre vs ns) (hlay : PyData.layable0 (.list (ns.map .int)) = true) (h63 : ns.length ≤ 63)
    {dp un : Nat} {gd : Option (List Code)} {cn : Str} {cs : Scope} {a : Addr} {ccd : Value} {cl : List (Str × Addr)} {outer : List Env} {A₀ : Around} {base h₀ : Heap} {L : Addr} {m : Str → Option Value} {s : Shared} {Q E : Value → Shared → Prop}
    (B : Below A₀ base outer h₀) (F : Fr h₀ L s.heap m) (X : (hd.heap_39 w.params).In h₀) (N : News h₀ L s.heap news) (T : Top hd.view_39 (looseW hd.view_39 [Str.ofString "filter_points"]) mean mg mb h₀) (hkk : cs.kind = .function)
    (hsl : h₀.IsList sl vs.toArray)
    (hdp : dp + 6 < recursionLimit) (hu : un + 120 < cLine)
    (hret : ∀ h' tk' n ta P k rl tl, n = 1 + min 8 ns.length → Fr h₀ L h' m → News h₀ L h' ((rl, listO ((List.range n).map (tv ta)) k) :: (tl ++ news)) → Tups n ta P tl → (∀ i, i < n → Pt.Small (P i)) → (∀ q ∈ news, rl ≠ q.1 ∧ ∀ p ∈ tl, p.1 ≠ q.1) → (∀ p ∈ tl, p.1 ≠ rl) → Q (.ref rl) { s with heap := h', toks := tk' }) :
    wpAny (model PySem.Challenge.rw_fc0056_01.row.prog w) (ktrTop dp un gd cn cs L a ccd cl outer) (call (.ref 113) [.ref sl]) Q E s := by
  revert B F X N T hkk hsl hdp hu hret
  k_fill
  intro B F X N T hkk hsl hdp hu hret
  refine wpAny_call ?_
  k_dflt (refine' code_def ?k1 ?k2 ?k3 ?k4 ?k5 ?kA ?kF ?kK ?k6 ?k7 ?k8 ?k9 ?kB ?_ ?c2 ?c3 ?c4 ?c5; (case kA => exact rfl); (case kF => exact rfl); (case kK => assumption); (case k1 => k_asm); (case k2 => k_asm); (case k3 => k_asm); (case k4 => k_asm); (case k5 => k_asm); (case k6 => k_is); (case k7 => k_is); (case k8 => ktr_room); (case k9 => first | exact BindsTo.of_eq rfl | exact binds_K (by k_in) rfl (by k_is) rfl rfl rfl); (case c5 => decide); (case kB => exact locs rfl); (case c2 => exact rfl); (case c3 => exact rfl); (case c4 => exact rfl); k_whole; intro g' L' h' FG' F' N' B' X' T'; (try dsimp only); (try k_fold))
  have hslg : g'.IsList sl vs.toArray := hsl.at (fun o e => FG'.keep sl o e)
  k_steps
  refine Halt.out ?_
  rename Fr g' L' _ _ => F1
  k_dflt (refine' For_invVF F1 ?k1 ?k2 ?_; (case k1 => exact rfl); (case k2 => exact rfl))
  k_steps
  refine Halt.out ?_
  rename_i D0 hh0 l0 rl hh1 l1 hh2 D ws hh3 F3 N3 hI hC hL l2
  have hws : ws.length = min 8 ns.length := by rw [← hC]; exact hI.length
  have hrn : ∀ q ∈ news, q.1 < rl := tb_ltOf l1.2
  have hD0 : ∀ q ∈ news, q.1 < D0 := l0
  have hD0r : D0 < rl := l1.1
  have hrD : rl < D := l2.1
  clear l0 l1 l2 hL
  obtain ⟨w1, w2, N3⟩ : ∃ t1 t2, News g' L' hh3 ((D, listO ws 0) :: (rl, listO [.ref D0] 0) :: (D0, tupO 0 t1 0 t2 0) :: news) := ⟨_, _, N3⟩
  k_dflt (refine kdl_iter (vs := ws) (nn := 0) (news := (rl, listO ((List.range 1).map (tv fun _ => D0)) 0) :: (D, listO ws 0) :: ([(D0, tupO 0 w1 0 w2 0)] ++ news)) (RJ rl D ws news) rfl (.tail _ (.head _)) F3 (fun q hq => N3 q ?_) ⟨fun _ => D0, fun _ => (0, 0), 0, [(D0, tupO 0 w1 0 w2 0)], rfl, rfl, fun i hi => ⟨w1, w2, 0, .head _⟩, fun j hj => (by decide : Builtin.Int.intBits 0 ≤ 1048576 + 5 * 0 ∧ Builtin.Int.intBits 0 ≤ 1048576 + 5 * 0), ?_⟩ ?_ ?_)
  · rcases List.mem_cons.mp hq with rfl | hq
    · exact .tail _ (.head _)
    · rcases List.mem_cons.mp hq with rfl | hq
      · exact .head _
      · exact .tail _ (.tail _ hq)
  · intro p hp
    rcases List.mem_cons.mp hp with rfl | hp
    · exact ⟨Nat.ne_of_lt hD0r, fun q hq => Nat.ne_of_gt (hD0 q hq)⟩
    · cases hp
  · rintro i v m₃ nx' h₃ tk₃ own hv ho hDm ⟨ta, P, k, tl, m1, rfl, ht, hb, hoff⟩ F₄ N₄
    have hin : i < ws.length := (List.getElem?_eq_some_iff.mp hv).1
    obtain ⟨nm, tn, rfl, hnm⟩ := IntsAre.at hI i v hv
    have hbn : Builtin.Int.intBits nm ≤ 1048576 := intBits_le_of_item (List.mem_of_mem_take (List.mem_of_getElem? hnm)) hlay
    change Fr g' L' h₃ _ at F₄
    change News g' L' h₃ _ at N₄
    have em : m₃ = fun z => if z = Str.ofString "ring" then some (.ref rl) else m₃ z := by
      funext z
      by_cases h1 : z = Str.ofString "ring"
      · simp [h1, m1]
      · simp [h1]
    rw [em] at F₄
    simp only [List.cons_append] at N₄
    have hll : ((List.range (i + 1)).map (tv ta)).length = i + 1 := by simp
    clear F3 N3
    have hsz : i < 8 := by omega
    have f1 : ∀ q ∈ tl ++ news ++ own, q.1 ≠ rl := fun q hq => by
      rcases List.mem_append.mp hq with hq | hq
      · rcases List.mem_append.mp hq with hq | hq
        · exact (hoff q hq).1
        · exact Nat.ne_of_lt (hrn q hq)
      · exact ho q hq rl (by simp)
    k_steps
    rename_i Dk hk lk Fk Nk
    have hneg : ((List.range (i + 1)).map (tv ta))[((-1 : Int) + (((List.range (i + 1)).map (tv ta)).length : Nat)).toNat]? = some (.ref (ta i)) := by
      rw [hll]
      have e : (-1 + ((i + 1 : Nat) : Int)).toNat = i := by omega
      rw [e]; simp [tv]
    k_dflt (refine' item_neg (vs := (List.range (i + 1)).map (tv ta)) (k := k) (v := .ref (ta i)) ?k1 ?k2 (by decide) (by rw [hll]; omega) (by decide) hneg ?_; (case k1 => k_asm); (case k2 => k_mem))
    k_steps
    refine Halt.out ?_
    rename_i hk2 Fk2 Nk2
    refine wpAny_mono (Q := fun v s' => (∃ tk, s' = { s with heap := hk2, toks := tk }) ∧ v = .ref (ta (i - 1))) ?_ ?_ (fun _ _ e => e)
    · refine IfExp_ ?_
      k_steps
      k_dflt (refine' len_led (vs := (List.range (i + 1)).map (tv ta)) (k := k) (n := i + 1) ?k1 ?k2 hll (by omega) ?_; (case k1 => k_asm); (case k2 => k_mem))
      k_steps
      · k_dflt (refine' len_led (vs := (List.range (i + 1)).map (tv ta)) (k := k) (n := i + 1) ?k1 ?k2 hll (by omega) ?_; (case k1 => k_asm); (case k2 => k_mem))
        k_steps
        have e2 : (((i + 1 : Nat) : Int) - 2).toNat = i - 1 := by omega
        k_dflt (refine' item_led (vs := (List.range (i + 1)).map (tv ta)) (n := k) (v := .ref (ta (i - 1))) ?k1 ?k2 (by omega) (by omega) ?k3 ?_; (case k1 => k_asm); (case k2 => k_mem); (case k3 => (rw [e2]; exact get_rng (by omega))))
        first | exact ⟨⟨_, rfl⟩, rfl⟩ | rfl
      · have e3 : i = i - 1 := by omega
        first | exact ⟨⟨_, rfl⟩, by rw [← e3]⟩ | rw [← e3]
    · rintro v s' ⟨⟨tk₅, rfl⟩, rfl⟩
      obtain ⟨uL, vL, jL, mL⟩ := ht i (by omega)
      obtain ⟨uB, vB, jB, mB⟩ := ht (i - 1) (by omega)
      have bL1 : Builtin.Int.intBits (P i).1 ≤ 1048616 := by have := (hb i (by omega)).1; omega
      have bL2 : Builtin.Int.intBits (P i).2 ≤ 1048616 := by have := (hb i (by omega)).2; omega
      have bB1 : Builtin.Int.intBits (P (i - 1)).1 ≤ 1048616 := by have := (hb (i - 1) (by omega)).1; omega
      have bB2 : Builtin.Int.intBits (P (i - 1)).2 ≤ 1048616 := by have := (hb (i - 1) (by omega)).2; omega
      k_steps
      · k_dflt (refine append_led (vs := (List.range (i + 1)).map (tv ta)) (k := k) ((D, listO ws 0) :: (tl ++ news ++ own)) (by k_asm) (by k_asm) (by k_mem) ?_ (by rw [hll]; omega) ?_)
        · intro q hq
          rcases List.mem_cons.mp hq with rfl | hq
          · exact ⟨by k_mem, Nat.ne_of_gt hrD⟩
          · exact ⟨by k_mem, f1 q hq⟩
        intro h9 F9 N9
        k_steps
        exact ring_end F9 N9 rfl ht (fun _ h => h) mL hb (by have := (hb i (by omega)).1; omega) (by have := (hb i (by omega)).2; omega) hoff ho
      · k_dflt (refine append_led (vs := (List.range (i + 1)).map (tv ta)) (k := k) ((D, listO ws 0) :: (tl ++ news ++ own)) (by k_asm) (by k_asm) (by k_mem) ?_ (by rw [hll]; omega) ?_)
        · intro q hq
          rcases List.mem_cons.mp hq with rfl | hq
          · exact ⟨by k_mem, Nat.ne_of_gt hrD⟩
          · exact ⟨by k_mem, f1 q hq⟩
        intro h9 F9 N9
        k_steps
        exact ring_end F9 N9 rfl ht (fun _ h => h) mB hb (by have := (hb (i - 1) (by omega)).1; omega) (by have := (hb (i - 1) (by omega)).2; omega) hoff ho
      all_goals
        rename_i Dn hn Fn Nn ln
        obtain ⟨lz0, lz1, lz2, lz3⟩ := ln
        have lz4 := tb_ltOf lz3
        have q3 : Builtin.Int.intBits (nm.fdiv 5) ≤ 1048576 := bits_fdiv hbn
        have bi := hb i (by omega)
        have bj := hb (i - 1) (by omega)
      · have hstep : Builtin.Int.intBits ((nm.fdiv 5).fmod 4 - 1) ≤ 2 := by
          have g1 := fmod_lo (nm.fdiv 5) (n := 4) (by decide)
          have g2 := fmod_hi (nm.fdiv 5) (n := 4) (by decide)
          generalize (nm.fdiv 5).fmod 4 = z at g1 g2
          rcases (show z = 0 ∨ z = 1 ∨ z = 2 ∨ z = 3 by omega) with rfl | rfl | rfl | rfl <;> decide
        have hx1 := bits_add bi.1 (bits_mul hstep (bits_sub bi.1 bj.1))
        have hy1 := bits_add bi.2 (bits_mul hstep (bits_sub bi.2 bj.2))
        obtain ⟨x, y, t1, t2, hx, hy, Nn⟩ : ∃ x y t1 t2, Builtin.Int.intBits x ≤ 1048576 + 5 * (i + 1) ∧ Builtin.Int.intBits y ≤ 1048576 + 5 * (i + 1) ∧ News g' L' hn ((Dn, tupO x t1 y t2 0) :: _ :: (rl, listO ((List.range (i + 1)).map (tv ta)) k) :: (D, listO ws 0) :: (tl ++ news ++ own)) := ⟨_, _, _, _, Nat.le_trans hx1 (by omega), Nat.le_trans hy1 (by omega), Nn⟩
        k_dflt (refine append_led (vs := (List.range (i + 1)).map (tv ta)) (k := k) ((D, listO ws 0) :: (((Dn, tupO x t1 y t2 0) :: tl) ++ news ++ own)) (by k_asm) Nn (by k_mem) ?_ (by rw [hll]; omega) ?_)
        · intro q hq
          rcases List.mem_cons.mp hq with rfl | hq
          · exact ⟨by k_mem, Nat.ne_of_gt hrD⟩
          · rcases List.mem_cons.mp hq with rfl | hq
            · exact ⟨by k_mem, Nat.ne_of_gt lz1⟩
            · exact ⟨.tail _ (.tail _ (.tail _ (.tail _ hq))), f1 q hq⟩
        intro h9 F9 N9
        k_steps
        refine ring_end F9 N9 rfl ht (fun _ h => .tail _ h) (.head _) hb hx hy ?_ ?_
        · intro p hp
          rcases List.mem_cons.mp hp with rfl | hp
          · exact ⟨Nat.ne_of_gt lz1, fun q hq => Nat.ne_of_gt (lz4 q (List.mem_append_left _ (List.mem_append_right _ hq)))⟩
          · exact hoff p hp
        · intro p hp b hb' e
          rcases List.mem_cons.mp hb' with rfl | hb'
          · exact ho p hp _ (.head _) e
          · rcases List.mem_cons.mp hb' with rfl | hb'
            · exact ho p hp _ (.tail _ (.head _)) e
            · rcases List.mem_cons.mp hb' with rfl | hb'
              · exact absurd e (Nat.ne_of_lt (lz4 p (List.mem_append_right _ hp)))
              · exact ho p hp _ (.tail _ (.tail _ hb')) e
      · have hx1 := bits_fmod_by (a := nm.fdiv 5) (b := 3) (n := 2) (by decide) (by decide)
        have hy1 := bits_fdiv (b := 3) q3
        obtain ⟨x, y, t1, t2, hx, hy, Nn⟩ : ∃ x y t1 t2, Builtin.Int.intBits x ≤ 1048576 + 5 * (i + 1) ∧ Builtin.Int.intBits y ≤ 1048576 + 5 * (i + 1) ∧ News g' L' hn ((Dn, tupO x t1 y t2 0) :: _ :: (rl, listO ((List.range (i + 1)).map (tv ta)) k) :: (D, listO ws 0) :: (tl ++ news ++ own)) := ⟨_, _, _, _, Nat.le_trans hx1 (by omega), Nat.le_trans hy1 (by omega), Nn⟩
        k_dflt (refine append_led (vs := (List.range (i + 1)).map (tv ta)) (k := k) ((D, listO ws 0) :: (((Dn, tupO x t1 y t2 0) :: tl) ++ news ++ own)) (by k_asm) Nn (by k_mem) ?_ (by rw [hll]; omega) ?_)
        · intro q hq
          rcases List.mem_cons.mp hq with rfl | hq
          · exact ⟨by k_mem, Nat.ne_of_gt hrD⟩
          · rcases List.mem_cons.mp hq with rfl | hq
            · exact ⟨by k_mem, Nat.ne_of_gt lz1⟩
            · exact ⟨.tail _ (.tail _ (.tail _ (.tail _ hq))), f1 q hq⟩
        intro h9 F9 N9
        k_steps
        refine ring_end F9 N9 rfl ht (fun _ h => .tail _ h) (.head _) hb hx hy ?_ ?_
        · intro p hp
          rcases List.mem_cons.mp hp with rfl | hp
          · exact ⟨Nat.ne_of_gt lz1, fun q hq => Nat.ne_of_gt (lz4 q (List.mem_append_left _ (List.mem_append_right _ hq)))⟩
          · exact hoff p hp
        · intro p hp b hb' e
          rcases List.mem_cons.mp hb' with rfl | hb'
          · exact ho p hp _ (.head _) e
          · rcases List.mem_cons.mp hb' with rfl | hb'
            · exact ho p hp _ (.tail _ (.head _)) e
            · rcases List.mem_cons.mp hb' with rfl | hb'
              · exact absurd e (Nat.ne_of_lt (lz4 p (List.mem_append_right _ hp)))
              · exact ho p hp _ (.tail _ (.tail _ hb')) e
      · have hx1 := bits_fmod_by (a := nm.fdiv 5) (b := 3) (n := 2) (by decide) (by decide)
        have hy1 := bits_fdiv (b := 3) q3
        obtain ⟨x, y, t1, t2, hx, hy, Nn⟩ : ∃ x y t1 t2, Builtin.Int.intBits x ≤ 1048576 + 5 * (i + 1) ∧ Builtin.Int.intBits y ≤ 1048576 + 5 * (i + 1) ∧ News g' L' hn ((Dn, tupO x t1 y t2 0) :: _ :: (rl, listO ((List.range (i + 1)).map (tv ta)) k) :: (D, listO ws 0) :: (tl ++ news ++ own)) := ⟨_, _, _, _, Nat.le_trans hy1 (by omega), Nat.le_trans hx1 (by omega), Nn⟩
        k_dflt (refine append_led (vs := (List.range (i + 1)).map (tv ta)) (k := k) ((D, listO ws 0) :: (((Dn, tupO x t1 y t2 0) :: tl) ++ news ++ own)) (by k_asm) Nn (by k_mem) ?_ (by rw [hll]; omega) ?_)
        · intro q hq
          rcases List.mem_cons.mp hq with rfl | hq
          · exact ⟨by k_mem, Nat.ne_of_gt hrD⟩
          · rcases List.mem_cons.mp hq with rfl | hq
            · exact ⟨by k_mem, Nat.ne_of_gt lz1⟩
            · exact ⟨.tail _ (.tail _ (.tail _ (.tail _ hq))), f1 q hq⟩
        intro h9 F9 N9
        k_steps
        refine ring_end F9 N9 rfl ht (fun _ h => .tail _ h) (.head _) hb hx hy ?_ ?_
        · intro p hp
          rcases List.mem_cons.mp hp with rfl | hp
          · exact ⟨Nat.ne_of_gt lz1, fun q hq => Nat.ne_of_gt (lz4 q (List.mem_append_left _ (List.mem_append_right _ hq)))⟩
          · exact hoff p hp
        · intro p hp b hb' e
          rcases List.mem_cons.mp hb' with rfl | hb'
          · exact ho p hp _ (.head _) e
          · rcases List.mem_cons.mp hb' with rfl | hb'
            · exact ho p hp _ (.tail _ (.head _)) e
            · rcases List.mem_cons.mp hb' with rfl | hb'
              · exact absurd e (Nat.ne_of_lt (lz4 p (List.mem_append_right _ hp)))
              · exact ho p hp _ (.tail _ (.tail _ hb')) e
  · rintro m₃ nx' h₃ tk₃ ⟨ta, P, k, tl, m1, rfl, ht, hb, hoff⟩ F₄ N₄
    have em : m₃ = fun z => if z = Str.ofString "ring" then some (.ref rl) else m₃ z := by
      funext z
      by_cases h1 : z = Str.ofString "ring"
      · simp [h1, m1]
      · simp [h1]
    rw [em] at F₄
    change Fr g' L' h₃ _ at F₄
    change News g' L' h₃ _ at N₄
    k_steps
    rename_i kF kN _ _
    refine hret _ _ (ws.length + 1) ta P k rl tl (by omega) kF (fun q hq => kN q ?_) ht (fun i hi => ?_) (fun q hq => ⟨Nat.ne_of_gt (hrn q hq), fun p hp => (hoff p hp).2 q hq⟩) (fun p hp => (hoff p hp).1)
    · rcases List.mem_cons.mp hq with rfl | hq
      · exact .head _
      · exact .tail _ (.tail _ hq)
    · have := hb i hi
      have hw8 : ws.length ≤ 8 := by omega
      exact ⟨by omega, by omega⟩
end Mine
end

theorem Mine.calm_C10 : True := by
  w_top off
  trivial
section
open PySem PySem.W PyProof.Rows
set_option maxRecDepth 100000
namespace Mine
/-- a fact put away from the walk's eyes -/
structure Hid (P : Prop) : Prop where
  out : P
section
variable {α : Type} {P R : α → Pt}
theorem RR.congr {l m : List α} (h : RR P l m) (e : ∀ x ∈ l, P x = R x) : RR R l m := by
  induction h with
  | refl => exact .refl _
  | @step t p r hn hc ih =>
    have hs := r.sub
    refine .step ih hn ?_
    rw [← e _ (hs p List.mem_cons_self), ← e _ (hs _ (List.mem_cons_of_mem _ (List.getLast_mem hn))), ← e _ (hs _ (List.mem_cons_of_mem _ (List.head_mem hn)))]
    exact hc
  | rot _ ih => exact .rot ih
theorem Nf.congr {l : List α} (h : Nf P l) (e : ∀ x ∈ l, P x = R x) : Nf R l := by
  intro u p v el hv c
  refine h u p v el hv ?_
  have hm : ∀ x ∈ v ++ u, x ∈ l := fun x hx => by
    rw [el]
    rcases List.mem_append.mp hx with hx | hx <;> simp [hx]
  rw [e p (by rw [el]; simp), e _ (hm _ (List.getLast_mem hv)), e _ (hm _ (List.head_mem hv))]
  exact c
end

/-- the points that are made so far -/
structure Pts (w : World) (i : Nat) (P : Nat → Pt) (pa : Nat → Addr) (PL : Led) : Prop where
  at' : ∀ k, k < i → ∃ d tk tx ty, (pa k, instObj 31 d) ∈ PL ∧ (d, dictOf (pointEs w tk (P k).1 tx (P k).2 ty) 2) ∈ PL
  inj : ∀ j k, j < i → k < i → pa j = pa k → j = k
theorem Pts.next {w : World} {i : Nat} {P : Nat → Pt} {pa : Nat → Addr} {PL : Led} (h : Pts w i P pa PL) {x d : Addr} {tk : Nat → Tok} {tx ty : Tok} (hx : ∀ p ∈ PL, p.1 ≠ x) :
    Pts w (i + 1) P (fun k => if k = i then x else pa k) ((x, instObj 31 d) :: (d, dictOf (pointEs w tk (P i).1 tx (P i).2 ty) 2) :: PL) := by
  refine ⟨fun k hk => ?_, fun j k hj hk e => ?_⟩
  · by_cases e : k = i
    · subst e
      exact ⟨d, tk, tx, ty, by simp, by simp⟩
    · obtain ⟨d', tk', tx', ty', h1, h2⟩ := h.at' k (by omega)
      refine ⟨d', tk', tx', ty', ?_, .tail _ (.tail _ h2)⟩
      simp only [if_neg e]
      exact .tail _ (.tail _ h1)
  · by_cases e1 : j = i <;> by_cases e2 : k = i
    · omega
    · simp only [if_pos e1, if_neg e2] at e
      obtain ⟨_, _, _, _, h1, _⟩ := h.at' k (by omega)
      exact absurd e.symm (hx _ h1)
    · simp only [if_neg e1, if_pos e2] at e
      obtain ⟨_, _, _, _, h1, _⟩ := h.at' j (by omega)
      exact absurd e (hx _ h1)
    · simp only [if_neg e1, if_neg e2] at e
      exact h.inj j k (by omega) (by omega) e
theorem Pts.map {i : Nat} {pa : Nat → Addr} {x : Addr} : (List.range (i + 1)).map (tv fun k => if k = i then x else pa k) = (List.range i).map (tv pa) ++ [.ref x] := by
  rw [List.range_succ, List.map_append]
  congr 1
  · apply List.map_congr_left
    intro z hz
    have : z ≠ i := Nat.ne_of_lt (List.mem_range.mp hz)
    simp [tv, this]
  · simp [tv]

theorem mk_point {w : World} {h₀ h : Heap} {L x d : Addr} {news : Led} {t0 t1 tx ty : Tok} {px py : Int}
    (N : News h₀ L h ((x, instObj 31 d) :: (d, dictOf [ent w "x" t0 (.int px tx), ent w "y" t1 (.int py ty)] 2) :: news)) :
    ∃ tk : Nat → Tok, News h₀ L h ((x, instObj 31 d) :: (d, dictOf (pointEs w tk px tx py ty) 2) :: news) := ⟨fun k => match k with | 0 => t0 | _ => t1, N⟩
/-- the ring as far as it is linked -/
structure Built (k : Nat) (P : Nat → Pt) (pa : Nat → Addr) (rec : Nat → NodeC) (pr nx : Nat → Nat) (base : Led) : Prop where
  sep : Sep k rec base
  cyc : Cyc nx pr (List.range k)
  pt : ∀ j, j < k → (rec j).pt = pa j ∧ (rec j).x = (P j).1 ∧ (rec j).y = (P j).2
theorem Built.hin {k : Nat} {P : Nat → Pt} {pa : Nat → Addr} {rec : Nat → NodeC} {pr nx : Nat → Nat} {base : Led} (B : Built k P pa rec pr nx base) : ∀ j, j < k → pr j < k ∧ nx j < k := fun j hj =>
  let h := B.cyc.mem_nx (List.mem_range.mpr hj)
  ⟨List.mem_range.mp h.2, List.mem_range.mp h.1⟩

theorem own_sep {w : World} {k : Nat} {rec : Nat → NodeC} {pr nx : Nat → Nat} {base own : Led} (S : Sep k rec base) (ho : OwnOff own ((ringL w k rec pr nx ++ base).map (·.1))) : Sep k rec (base ++ own) := by
  refine ⟨S.inj, fun q hq j hj => ?_⟩
  rcases List.mem_append.mp hq with hq | hq
  · exact S.off q hq j hj
  · exact ho q hq _ (List.mem_map.mpr ⟨_, ring_d hj, rfl⟩)
theorem own_ring {w : World} {k : Nat} {rec : Nat → NodeC} {pr nx : Nat → Nat} {base own : Led} (h1 : ∀ q ∈ own, ∀ j, j < k → q.1 ≠ (rec j).a ∧ q.1 ≠ (rec j).d) (h2 : OwnOff own (base.map (·.1))) : OwnOff own ((ringL w k rec pr nx ++ base).map (·.1)) := by
  intro p hp b hb
  obtain ⟨q, hq, rfl⟩ := List.mem_map.mp hb
  rcases List.mem_append.mp hq with hq | hq
  · rcases List.mem_append.mp hq with hq | hq
    · obtain ⟨j, hj, rfl⟩ := List.mem_map.mp hq
      exact (h1 p hp j (List.mem_range.mp hj)).1
    · obtain ⟨j, hj, rfl⟩ := List.mem_map.mp hq
      exact (h1 p hp j (List.mem_range.mp hj)).2
  · exact h2 p hp _ (List.mem_map.mpr ⟨q, hq, rfl⟩)

theorem Built.start {P : Nat → Pt} {pa : Nat → Addr} {r : NodeC} {base own : Led} (hf : ∀ q ∈ base ++ own, q.1 ≠ r.a ∧ q.1 ≠ r.d) (e1 : r.pt = pa 0) (e2 : r.x = (P 0).1) (e3 : r.y = (P 0).2) : Built 1 P pa (fun _ => r) (fun _ => 0) (fun _ => 0) base := by
  refine ⟨⟨fun j k hj hk _ => by omega, fun q hq k _ => (hf q (List.mem_append_left _ hq)).2⟩, ?_, fun j hj => ?_⟩
  · rw [show List.range 1 = [0] from rfl]
    show Lk (fun _ => 0) (fun _ => 0) ([0] ++ [0])
    exact ⟨⟨rfl, rfl⟩, trivial⟩
  · have : j = 0 := by omega
    subst this
    exact ⟨e1, e2, e3⟩
theorem Built.next {w : World} {k : Nat} {P : Nat → Pt} {pa : Nat → Addr} {rec : Nat → NodeC} {pr nx : Nat → Nat} {r : NodeC} {base own : Led} (B : Built k P pa rec pr nx base) (hk : 0 < k)
    (hf : ∀ q ∈ ringL w k rec pr nx ++ (base ++ own), q.1 ≠ r.a ∧ q.1 ≠ r.d) (e1 : r.pt = pa k) (e2 : r.x = (P k).1) (e3 : r.y = (P k).2) :
    Built (k + 1) P pa (ext rec k r) (upd (upd pr k (k - 1)) (nx (k - 1)) k) (upd (upd nx k (nx (k - 1))) (k - 1) k) base := by
  refine ⟨sep_ext (w := w) (pr := pr) (nx := nx) B.sep (fun p hp => (hf p ?_).2), ?_, fun j hj => ?_⟩
  · rcases List.mem_append.mp hp with hp | hp
    · exact List.mem_append_left _ hp
    · exact List.mem_append_right _ (List.mem_append_left _ hp)
  · rw [List.range_succ]
    have h1 : (List.range k).head? = some 0 := by
      obtain ⟨q, rfl⟩ : ∃ q, k = q + 1 := ⟨k - 1, by omega⟩
      rw [List.range_succ_eq_map]; rfl
    have h2 : (List.range k).getLast? = some (k - 1) := by
      obtain ⟨q, rfl⟩ : ∃ q, k = q + 1 := ⟨k - 1, by omega⟩
      rw [List.range_succ, List.getLast?_concat]; rfl
    exact B.cyc.grow (a := 0) (z := k - 1) (p := k) List.nodup_range h1 h2 (by simp)
  · by_cases e : j = k
    · subst e
      simp only [ext, if_true]
      exact ⟨e1, e2, e3⟩
    · simp only [ext, if_neg e]
      exact B.pt j (by omega)
theorem Built.own {w : World} {k : Nat} {rec : Nat → NodeC} {pr nx pr' nx' : Nat → Nat} {r : NodeC} {base own : Led} (ho : OwnOff own ((ringL w k rec pr nx ++ base).map (·.1)))
    (hf : ∀ q ∈ ringL w k rec pr nx ++ (base ++ own), q.1 ≠ r.a ∧ q.1 ≠ r.d) : OwnOff own ((ringL w (k + 1) (ext rec k r) pr' nx' ++ base).map (·.1)) := by
  refine own_ring (fun q hq j hj => ?_) fun p hp b hb => ho p hp b (by rw [List.map_append]; exact List.mem_append_right _ hb)
  by_cases e : j = k
  · simp only [ext, if_pos e]
    exact hf q (List.mem_append_right _ (List.mem_append_right _ hq))
  · simp only [ext, if_neg e]
    exact ⟨ho q hq _ (List.mem_map.mpr ⟨_, ring_o (pr := pr) (nx := nx) (by omega), rfl⟩), ho q hq _ (List.mem_map.mpr ⟨_, ring_d (pr := pr) (nx := nx) (w := w) (by omega), rfl⟩)⟩

theorem Asked.of {w : World} {n kr : Nat} {P : Nat → Pt} {pa ta : Nat → Addr} {rec : Nat → NodeC} {pr nx : Nat → Nat} {BB PL Rg : Led} {D rl : Addr} (B : Built n P pa rec pr nx BB) (hp : Pts w n P pa PL) (h1 : ∀ p ∈ PL, p ∈ BB) (ht : Tups n ta P Rg) (h2 : ∀ p ∈ Rg, p ∈ BB)
    (mD : (D, LCg.lst ((List.range n).map (tv pa))) ∈ BB) (mr : (rl, listO ((List.range n).map (tv ta)) kr) ∈ BB) : Asked n rec BB D rl ((List.range n).map (tv pa)).length kr ((List.range n).map (tv ta)) := by
  have e : ptsV n rec = (List.range n).map (tv pa) := by
    unfold ptsV
    apply List.map_congr_left
    intro k hk
    rw [(B.pt k (List.mem_range.mp hk)).1]; rfl
  refine ⟨by rw [e]; exact mD, mr, by simp, fun k hk => ?_, fun k hk => ?_, fun j k hj hk q => ?_⟩
  · obtain ⟨t, u, j, hm⟩ := ht k hk
    refine ⟨ta k, t, u, j, get_rng hk, ?_⟩
    rw [(B.pt k hk).2.1, (B.pt k hk).2.2]
    exact h2 _ hm
  · obtain ⟨d, _, _, _, hm, _⟩ := hp.at' k hk
    rw [(B.pt k hk).1]
    exact ⟨d, h1 _ hm⟩
  · rw [(B.pt j hj).1, (B.pt k hk).1] at q
    exact hp.inj j k hj hk q
theorem range_cons {n : Nat} (h : 1 ≤ n) : ∃ t, List.range n = 0 :: t := by
  obtain ⟨q, rfl⟩ : ∃ q, n = q + 1 := ⟨n - 1, by omega⟩
  exact ⟨_, List.range_succ_eq_map⟩
theorem range_last {nx pr : Nat → Nat} {n : Nat} (h : 1 ≤ n) (c : Cyc nx pr (List.range n)) : nx (n - 1) = 0 := by
  obtain ⟨t, e⟩ := range_cons h
  rw [e] at c
  refine c.last (d := List.range (n - 1)) ?_
  rw [← e]
  obtain ⟨q, rfl⟩ : ∃ q, n = q + 1 := ⟨n - 1, by omega⟩
  rw [List.range_succ]; rfl

theorem rangeKs_eq {n : Nat} {t : List Nat} (h : List.range n = 0 :: t) : (0 :: t).map Int.ofNat = rangeKs 0 ((n : Int) - 0).toNat := by
  rw [← h]
  unfold rangeKs
  have e : ((n : Int) - 0).toNat = n := by omega
  rw [e]
  apply List.map_congr_left
  intro k _
  simp
theorem rot_at {n c : Nat} (h : c < n) : ∃ t, Rot (List.range n) (c :: t) := by
  obtain ⟨u, v, e⟩ := List.append_of_mem (List.mem_range.mpr h)
  exact ⟨v ++ u, u, c :: v, e, rfl⟩
theorem ints_get {us : List Value} {l : List Nat} (h : IntsAre us (l.map Int.ofNat)) {k : Nat} (hk : k < l.length) : ∃ t, us[k]? = some (.int ((l.getD k 0 : Nat) : Int) t) := by
  have hl : us.length = l.length := by rw [h.length, List.length_map]
  obtain ⟨i, t, e, hi⟩ := IntsAre.at h k _ (List.getElem?_eq_getElem (l := us) (by omega))
  refine ⟨t, ?_⟩
  rw [List.getElem?_eq_getElem (l := us) (by omega), e]
  rw [List.getElem?_map, List.getElem?_eq_getElem hk] at hi
  simp only [Option.map_some, Option.some.injEq] at hi
  rw [← hi, List.getD_eq_getElem?_getD, List.getElem?_eq_getElem hk]
  rfl
theorem fin_law {P : Nat → Pt} {rec : Nat → NodeC} {n : Nat} {l₀ : List Nat} {nx pr : Nat → Nat} {e : Nat} {t : List Nat} (f : Fin (ptOf rec) n l₀ nx pr e t) (r : Rot (List.range n) l₀) (h : ∀ k, k < n → ptOf rec k = P k) :
    RR P (List.range n) (e :: t) ∧ Nf P (e :: t) := by
  have r1 : RR (ptOf rec) (List.range n) (e :: t) := (RR.ofRot r).trans f.red
  exact ⟨r1.congr fun x hx => h x (List.mem_range.mp hx), f.nf.congr fun x hx => h x (f.lt x hx)⟩
/-- two things of the ledger with unlike data lie apart -/
theorem apart {h₀ h : Heap} {L a b : Addr} {news : Led} {o q : Obj} (N : News h₀ L h news) (ha : (a, o) ∈ news) (hb : (b, q) ∈ news) (hd : o.data ≠ q.data) : a ≠ b := by
  intro e
  subst e
  have h1 := N.get ha
  have h2 := N.get hb
  rw [h1] at h2
  exact hd (congrArg _ (Option.some.inj h2))

theorem take_getD {l : List Nat} {j : Nat} (h : j < l.length) : l.take (j + 1) = l.take j ++ [l.getD j 0] := by
  rw [List.take_add_one, List.getElem?_eq_getElem h, List.getD_eq_getElem?_getD, List.getElem?_eq_getElem h]; rfl
theorem off1_mem {D : Addr} : ∀ {l : Led}, LCg.Off1 D l → ∀ p ∈ l, p.1 ≠ D
  | [], _, p, hp => nomatch hp
  | _ :: _, h, p, hp => by
    rcases List.mem_cons.mp hp with rfl | hp
    · exact h.1
    · exact off1_mem h.2 p hp

def dP (P : Nat → Pt) (k : Nat) : Dat := .tuple [.int (P k).1, .int (P k).2]
def dL (P : Nat → Pt) (l : List Nat) : Dat := .list (l.map (dP P))
theorem dat_all {n : Nat} {ta : Nat → Addr} {P : Nat → Pt} {news : Led} (ht : Tups n ta P news) : ∀ {l : List Nat}, (∀ x ∈ l, x < n) → DatAll news (l.map (tv ta)) (l.map (dP P))
  | [], _ => .nil
  | k :: l, h => by
    obtain ⟨t, u, j, hm⟩ := ht k (h k List.mem_cons_self)
    exact .cons (.tuple hm (.cons (.int _ t) (.cons (.int _ u) .nil))) (dat_all ht fun x hx => h x (List.mem_cons_of_mem _ hx))
theorem dat_in {n k : Nat} {ta : Nat → Addr} {P : Nat → Pt} {news : Led} {a : Addr} {l : List Nat} (ht : Tups n ta P news) (h : ∀ x ∈ l, x < n) (hm : (a, listO (l.map (tv ta)) k) ∈ news) : DatIn news (.ref a) (dL P l) := .list hm (dat_all ht h)
theorem dL_ok {P : Nat → Pt} {l : List Nat} : kqdOk 8 (dL P l) = true := by
  simp [kqdOk, dL, dP]
theorem dL_map (P : Nat → Pt) (l : List Nat) : dL P l = .list ((l.map P).map fun p => .tuple [.int p.1, .int p.2]) := by
  simp [dL, dP, Function.comp_def]
theorem due_eqv {n : Nat} {P : Nat → Pt} {l l' : List Nat} (hn : 1 ≤ n) (r : RR P (List.range n) l) (f : Nf P l) (r' : RR P (List.range n) l') (f' : Nf P l') : Eqv (l.map P) (l'.map P) :=
  confluent n ((List.range n).map P) _ _ (by simp) r.map f.map r'.map f'.map (by intro e; have := congrArg List.length e; simp at this; omega)
theorem due_one {n : Nat} {P : Nat → Pt} {l l' : List Nat} (hn : 1 ≤ n) (r : RR P (List.range n) l) (f : Nf P l) (r' : RR P (List.range n) l') (f' : Nf P l') (h : l.length = 1) : l'.length = 1 := by
  rcases due_eqv hn r f r' f' with q | q
  · have := q.len
    simp only [List.length_map] at this
    omega
  · simpa using q.2
theorem due_turn {n : Nat} {P : Nat → Pt} {l l' : List Nat} (hn : 1 ≤ n) (r : RR P (List.range n) l) (f : Nf P l) (r' : RR P (List.range n) l') (f' : Nf P l') (h : l.length ≠ 1) :
    dL P l' ∈ (List.range l.length).map (fun k => dL P (l.drop k ++ l.take k)) := by
  rcases due_eqv hn r f r' f' with q | q
  · have hne : l.map P ≠ [] := by
      have := r.ne (by intro e; have := congrArg List.length e; simp at this; omega)
      simpa using this
    obtain ⟨k, hk, e⟩ := q.idx hne
    rw [List.length_map] at hk
    refine List.mem_map.mpr ⟨k, List.mem_range.mpr hk, ?_⟩
    rw [dL_map, dL_map, e, List.map_append, List.map_drop, List.map_take]
  · exact absurd (by simpa using q.1) h

theorem dat_snoc {news : Led} {v : Value} {d : Dat} (h : DatIn news v d) : ∀ {vs : List Value} {ds : List Dat}, DatAll news vs ds → DatAll news (vs ++ [v]) (ds ++ [d])
  | _, _, .nil => .cons h .nil
  | _, _, .cons h' t => .cons h' (dat_snoc h t)
theorem Tups.sub {n : Nat} {ta : Nat → Addr} {P : Nat → Pt} {a b : Led} (h : Tups n ta P a) (s : ∀ p ∈ a, p ∈ b) : Tups n ta P b := fun i hi => let ⟨t, u, j, m⟩ := h i hi; ⟨t, u, j, s _ m⟩

/-- what is kept: each a ring out of which nothing more can go -/
def Kept (n : Nat) (ta : Nat → Addr) (P : Nat → Pt) (KL : Led) (kvs : List Value) : Prop := ∀ v ∈ kvs, ∃ a l k, v = .ref a ∧ (a, listO (l.map (tv ta)) k) ∈ KL ∧ RR P (List.range n) l ∧ Nf P l
/-- what stands between the turns of the law's loop -/
def KJ (n : Nat) (ta : Nat → Addr) (P : Nat → Pt) (L lz kl : Nat) (sks : List Value) (oR oD oT : Obj) (Rg : Led) (i : Nat) (m : Str → Option Value) (nx : Led) : Prop :=
  ∃ kvs kk oN vN KL t, m (Str.ofString "many") = some (.int (n : Int) t) ∧ m (Str.ofString "kept") = some (.ref kl) ∧
    nx = (lz, listO sks 0) :: (kl, listO kvs kk) :: (L + 1, oR) :: (L + 1 + 1, oN) :: (L + 1 + 1 + 1, oD) :: (L + 1 + 1 + 1 + 1, oT) :: (KL ++ Rg) ∧
    oN.data = .cell vN ∧ kvs.length = i ∧ Kept n ta P KL kvs ∧ (∀ p ∈ KL, p.1 ≠ kl ∧ p.1 ≠ L + 1 + 1 ∧ p.1 ≠ L + 1 + 1 + 1 ∧ p.1 ≠ L + 1 + 1 + 1 + 1)
end Mine
end

theorem Mine.calm_L1 : True := by
  w_top off
  trivial
section
open Mine
open PySem PySem.W PyProof.Rows
set_option maxRecDepth 100000
local macro_rules | `(tactic| k_mem) => `(tactic| first | with_reducible assumption | with_reducible exact Mine.ring_o (by with_reducible assumption) | with_reducible exact Mine.ring_d (by with_reducible assumption) | with_reducible exact List.mem_cons_self | (with_reducible refine List.mem_cons_of_mem _ ?_; k_mem) | (with_reducible refine List.mem_append_right _ ?_; k_mem) | (with_reducible refine List.mem_append_left _ ?_; k_mem))
local macro_rules | `(tactic| k_all) => `(tactic| assumption)
local macro_rules | `(tactic| bits_by_make) => `(tactic| with_reducible assumption)
local macro_rules | `(tactic| walk_at "call ref") => `(tactic| refine Mine.Halt.mk ?_)
local macro_rules | `(tactic| walk_at "pyIter ref") => `(tactic| refine Mine.Halt.mk ?_)
local macro_rules | `(tactic| walk_at "exec For") => `(tactic| refine Mine.Halt.mk ?_)
local macro_rules | `(tactic| walk_at "exec For Name List cons nil") => `(tactic| refine Mine.Halt.mk ?_)
local macro_rules | `(tactic| walk_at "exec Assign cons ListComp") => `(tactic| refine Mine.Halt.mk ?_)
local macro_rules | `(tactic| walk_at "eval ListComp") => `(tactic| refine Mine.Halt.mk ?_)
local macro_rules | `(tactic| walk_at "eval IfExp") => `(tactic| refine Mine.Halt.mk ?_)
local macro_rules | `(tactic| walk_at "subscriptTail Name Name ref int") => `(tactic| refine Mine.Halt.mk ?_)
local macro_rules | `(tactic| walk_at "subscriptTail Name BinOp ref int") => `(tactic| refine Mine.Halt.mk ?_)
local macro_rules | `(tactic| walk_at "subscriptTail Name Slice ref ref") => `(tactic| refine Mine.Halt.mk ?_)
local macro_rules | `(tactic| walk_at "binaryOp Add ref ref") => `(tactic| refine Mine.Halt.mk ?_)
local macro_rules | `(tactic| walk_at "compareOp NotIn") => `(tactic| refine Mine.Halt.mk ?_)
local macro_rules | `(tactic| walk_at "compareOp NotIn ref ref") => `(tactic| refine Mine.Halt.mk ?_)
local macro_rules | `(tactic| walk_at "CompSrcT") => `(tactic| refine Mine.Halt.mk ?_)
local macro_rules | `(tactic| walk_at "CompSrc") => `(tactic| refine Mine.Halt.mk ?_)
local macro_rules | `(tactic| walk_at "call builtin:len") => `(tactic| refine Mine.Halt.mk ?_)
local macro_rules | `(tactic| walk_at "call builtin:list.append") => `(tactic| refine Mine.Halt.mk ?_)
namespace Mine
theorem one_name {m : Str → Option Value} {x : Str} {a : Value} (hx : m x = some a) : m = fun z => if z = x then some a else m z := by
  funext z
  by_cases h1 : z = x
  · simp [h1, hx]
  · simp [h1]
section
variable {prog : Program} {w : World} {A : Around} {E : Value → Shared → Prop} {s : Shared} {h₀ : Heap} {L l : Addr} {m : Str → Option Value}
theorem len_base {vs : List Value} {n : Nat} {Q : Value → Shared → Prop} (F : Fr h₀ L s.heap m) (hl : h₀.IsList l vs.toArray) (hn : vs.length = n) (hf : (n : Int) < 2 ^ 63)
    (h : Q (.int (n : Int) (s.toks + 1)) { s with toks := s.toks + 1 + 1 }) : wpAny (model prog w) A (call (.builtin "len") [.ref l]) Q E s := by
  have e : vs.toArray.size = n := by rw [List.size_toArray, hn]
  exact len_list (hl.at (fun o e => F.keep l o e)) (by rw [e]; exact hf) (by rw [e]; exact h)
theorem item_base {value slice : PySem.Expr} {vs : List Value} {k : Int} {u : Tok} {v : Value} {Q : Value → Shared → Prop} (F : Fr h₀ L s.heap m) (hl : h₀.IsList l vs.toArray)
    (h0 : 0 ≤ k) (hfit : k < 2 ^ 63) (hv : vs[k.toNat]? = some v) (h : Q v s)
    (hs : subscripted slice false (.ref l) (.int k u) = operate [.ref l, .int k u] (getItem (.ref l) (.int k u)) := by with_unfolding_all rfl) :
    wpAny (model prog w) A (subscriptTail value slice (.ref l) (.int k u)) Q E s := by
  have hl' : s.heap.IsList l vs.toArray := hl.at (fun o e => F.keep l o e)
  exact tail_any hl'.typeIs slot_list_getitem.lookup (wpAny_getItem_list hl' h0 hfit (by simpa using hv) h) hs
end
theorem fmod_nat (a : Int) {n : Nat} (h : 1 ≤ n) : ∃ c : Nat, a.fmod (n : Int) = (c : Int) ∧ c < n := by
  have h1 := fmod_lo a (n := (n : Int)) (by omega)
  have h2 := fmod_hi a (n := (n : Int)) (by omega)
  exact ⟨(a.fmod n).toNat, by omega, by omega⟩
/-- what the third of the skips is -/
def SkipQ (s : Shared) (h : Heap) (n : Nat) (v : Value) (s' : Shared) : Prop := (∃ tk, s' = { s with heap := h, toks := tk }) ∧ ∃ (c : Nat) (t : Tok), v = .int (c : Int) t ∧ c < n
theorem SkipQ.mk {s : Shared} {h : Heap} {n tk : Nat} {z : Int} {t : Tok} (hz : ∃ c : Nat, z = (c : Int) ∧ c < n) : SkipQ s h n (.int z t) { s with heap := h, toks := tk } := by
  obtain ⟨c, rfl, hc⟩ := hz
  exact ⟨⟨tk, rfl⟩, c, t, rfl, hc⟩
end Mine

set_option maxHeartbeats 8000000 in
theorem PySem.Challenge.cw_fc0056_01_holds : PySem.Challenge.rw_fc0056_01.Holds :=
  hd (by
  k_go0
  (all_goals try k_fold)
  rename Top _ _ _ _ _ _ => T
  rename Below _ _ _ _ => B
  rename Frag.In _ _ => X
  rename IntsAre _ _ => hI
  rename Heap.IsList _ _ _ => hsl
  rename (PyData.list _).layable0 = true => hlay
  rename ¬ (_ < _) => h63
  k_steps
  refine Halt.out ?_
  rename Fr _ _ _ _ => F
  rename News _ _ _ _ => N
  k_dflt (refine ring_c hI hlay (by omega) B F X N T rfl hsl (by decide) (by decide) ?_)
  rintro h₂ tk₂ n ta P kr rl tl hn F₂ N₂ ht sm hoff hrl
  k_steps
  rename_i w s₀ s₁ mg mb G Y fa oo pm doc hfa hgs XX V GL BT TE TW qq1 qq2 MM qa1 qa2 hcd vns qs hla0 hrr hl2 qw1 qw2 sl vs qad ra w1 r0 hr1 hco hD h₁ tk₁ oT oD oN oR dT dD dN dR X0
  have hof : ∀ c ∈ [s₁.heap.objs.size + 1 + 1 + 1 + 1, s₁.heap.objs.size + 1 + 1 + 1, s₁.heap.objs.size + 1 + 1, s₁.heap.objs.size + 1], ∀ q ∈ (rl, listO ((List.range n).map (tv ta)) kr) :: tl, q.1 ≠ c := by
    intro c hc q hq
    obtain ⟨o, ho⟩ : ∃ o, (c, o) ∈ [(s₁.heap.objs.size + 1 + 1 + 1 + 1, oT), (s₁.heap.objs.size + 1 + 1 + 1, oD), (s₁.heap.objs.size + 1 + 1, oN), (s₁.heap.objs.size + 1, oR)] := by
      simp only [List.mem_cons, List.not_mem_nil, or_false] at hc
      rcases hc with rfl | rfl | rfl | rfl
      · exact ⟨oT, by simp⟩
      · exact ⟨oD, by simp⟩
      · exact ⟨oN, by simp⟩
      · exact ⟨oR, by simp⟩
    rcases List.mem_cons.mp hq with rfl | hq
    · exact (hoff _ ho).1
    · exact (hoff _ ho).2 q hq
  clear hoff
  have htg : Tups n ta P ((rl, listO ((List.range n).map (tv ta)) kr) :: tl) := fun i hi => let ⟨t, u, j, h⟩ := ht i hi; ⟨t, u, j, .tail _ h⟩
  obtain ⟨Rg, hRg⟩ : ∃ Rg : Led, Rg = (rl, listO ((List.range n).map (tv ta)) kr) :: tl := ⟨_, rfl⟩
  have hrg : (rl, listO ((List.range n).map (tv ta)) kr) ∈ Rg := hRg ▸ .head _
  rw [← hRg] at hof htg
  have N₂' : News s₁.heap s₁.heap.objs.size h₂ ((s₁.heap.objs.size + 1, oR) :: (s₁.heap.objs.size + 1 + 1, oN) :: (s₁.heap.objs.size + 1 + 1 + 1, oD) :: (s₁.heap.objs.size + 1 + 1 + 1 + 1, oT) :: Rg) := fun q hq => N₂ q (by
    subst hRg
    simp only [List.mem_cons, List.mem_append, List.not_mem_nil, or_false] at hq ⊢
    rcases hq with h | h | h | h | h | h <;> simp [h])
  refine storeC_led (c := s₁.heap.objs.size + 1) ((s₁.heap.objs.size + 1 + 1, oN) :: (s₁.heap.objs.size + 1 + 1 + 1, oD) :: (s₁.heap.objs.size + 1 + 1 + 1 + 1, oT) :: Rg) F₂ N₂' rfl (.head _) dR ?m2 ?_ rfl rfl
  case m2 =>
    intro q hq
    refine ⟨.tail _ hq, ?_⟩
    simp only [List.mem_cons] at hq
    rcases hq with rfl | rfl | rfl | hq
    · exact Nat.ne_of_gt (by show _ < _; omega)
    · exact Nat.ne_of_gt (by show _ < _; omega)
    · exact Nat.ne_of_gt (by show _ < _; omega)
    · exact hof _ (by simp) q hq
  intro h₃ oR' F₃ N₃ dR'
  clear N₂ N₂' F₂ N F dR X0 hRg ht hrl
  obtain ⟨vT, dT⟩ : ∃ v, oT.data = .cell v := ⟨_, dT⟩
  obtain ⟨vD, dD⟩ : ∃ v, oD.data = .cell v := ⟨_, dD⟩
  obtain ⟨vN, dN⟩ : ∃ v, oN.data = .cell v := ⟨_, dN⟩
  obtain ⟨m₀, hm₀, F₄⟩ : ∃ m₀, m₀ (Str.ofString "script") = some (.ref sl) ∧ Fr s₁.heap s₁.heap.objs.size h₃ m₀ := ⟨_, rfl, F₃⟩
  rw [one_name hm₀] at F₄
  clear F₃ hD
  have hRl : ((List.range n).map (tv ta)).length = n := by simp
  have hvl : vs.length = vns.length := hI.length
  k_steps
  refine Halt.out ?_
  k_dflt (refine' len_led (vs := (List.range n).map (tv ta)) (k := kr) (n := n) ?k1 ?k2 hRl (by omega) ?_; (case k1 => k_asm); (case k2 => k_mem))
  k_steps
  refine Halt.out ?_
  rename Fr s₁.heap _ _ _ => F₅
  k_dflt (refine' For_invVF F₅ ?k1 ?k2 ?_; (case k1 => exact rfl); (case k2 => exact rfl))
  k_steps
  refine Halt.out ?_
  refine len_base (n := vns.length) F₅ hsl hvl (by omega) ?_
  have hn1 : 1 ≤ n := by omega
  obtain ⟨c1, ec1, hc1⟩ := fmod_nat ((vns.length : Nat) : Int) (n := n) hn1
  k_steps
  refine Halt.out ?_
  simp only [ec1]
  rename_i kl _ lk h5 N5
  refine wpAny_mono (Q := SkipQ s₁ h5 n) ?_ ?_ (fun _ _ e => e)
  · refine IfExp_ ?_
    k_steps
    refine Halt.out ?_
    refine len_base (n := vns.length) F₅ hsl hvl (by omega) ?_
    k_steps
    · exact SkipQ.mk (fmod_nat _ hn1)
    · exact SkipQ.mk (fmod_nat 1 hn1)
  rintro v s' ⟨⟨tk₅, rfl⟩, c2, t2, rfl, hc2⟩
  k_steps
  refine Halt.out ?_
  rename_i ls hs F₆ N₆ ll
  obtain ⟨sks, hsk3, hsk, N₆'⟩ : ∃ sks : List Value, sks.length = 3 ∧ (∀ v ∈ sks, ∃ (c : Nat) (t : Tok), v = .int (c : Int) t ∧ c < n) ∧ News s₁.heap s₁.heap.objs.size hs ((ls, listO sks 0) :: (kl, listO [] 0) :: (s₁.heap.objs.size + 1, oR') :: (s₁.heap.objs.size + 1 + 1, oN) :: (s₁.heap.objs.size + 1 + 1 + 1, oD) :: (s₁.heap.objs.size + 1 + 1 + 1 + 1, oT) :: ([] ++ Rg)) := by
    refine ⟨_, rfl, ?_, N₆⟩
    intro v hv
    simp only [List.mem_cons, List.not_mem_nil, or_false] at hv
    rcases hv with rfl | rfl | rfl
    · exact ⟨0, _, rfl, hn1⟩
    · exact ⟨c1, _, rfl, hc1⟩
    · exact ⟨c2, _, rfl, hc2⟩
  clear N₆ N₃
  refine kdl_iter (vs := sks) (nn := 0) (KJ n ta P s₁.heap.objs.size ls kl sks oR' oD oT Rg) rfl (.head _) F₆ N₆' ⟨[], 0, oN, vN, [], _, rfl, rfl, rfl, dN, rfl, (fun v hv => nomatch hv), fun p hp => nomatch hp⟩ ?_ ?_
  · rintro i v m₁ nx' h₆ tk₆ own hv ho hDm ⟨kvs, kk, oN', vN', KL, tm, m1, m2, rfl, dN', hkl, hkept, hoK⟩ F₇ N₇
    obtain ⟨c, tc, rfl, hc⟩ := hsk v (List.mem_of_getElem? hv)
    rw [one_name m1, one_name m2] at F₇
    clear F₆ N₆'
    (try clear hco); (try clear hr1); (try clear r0); (try clear w1); (try clear ra); (try clear hl2); (try clear hrr); (try clear hla0); (try clear hcd); (try clear MM); (try clear TW); (try clear TE); (try clear BT); (try clear GL); (try clear V); (try clear XX); (try clear hgs); (try clear hfa); (try clear Y); (try clear G)
    replace hlay := Hid.mk hlay
    replace hkept := Hid.mk hkept
    replace hoK := Hid.mk hoK
    replace hof := Hid.mk hof
    replace htg := Hid.mk htg
    replace ho := Hid.mk ho
    replace hsk := Hid.mk hsk
    replace lk := Hid.mk lk
    replace ll := Hid.mk ll
    k_steps
    refine Halt.out ?_
    change Fr s₁.heap s₁.heap.objs.size h₆ _ at F₇
    change News s₁.heap s₁.heap.objs.size h₆ _ at N₇
    simp only [List.cons_append] at N₇
    k_dflt (refine LCg.Assign_ListComp_U (F₀ := F₇) (by rfl) (by with_unfolding_all rfl) (by with_unfolding_all rfl) (by decide) (by rfl) (by decide) (by rfl) (by rfl) (by rfl) ?_)
    k_steps
    refine Halt.out ?_
    refine LCg.CompSrc.ledger rfl F₇ N₇ (by k_mem) (by rw [PySem.sizeLine_eq, List.size_toArray, hRl]; omega) ?_
    intro g9
    rw [show ((List.range n).map (tv ta)).toArray.size = n by simp]
    refine restU (fun i' ys nw => ∃ pa PL, nw = PL ++ ((ls, listO sks 0) :: (kl, listO kvs kk) :: (s₁.heap.objs.size + 1, oR') :: (s₁.heap.objs.size + 1 + 1, oN') :: (s₁.heap.objs.size + 1 + 1 + 1, oD) :: (s₁.heap.objs.size + 1 + 1 + 1 + 1, oT) :: (KL ++ Rg ++ own)) ∧ ys = (List.range i').map (tv pa) ∧ Pts w i' P pa PL) ⟨fun _ => 0, [], rfl, rfl, ⟨(fun k hk => nomatch hk), (fun j k hj _ _ => nomatch hj)⟩⟩ ?_ ?_
    · rintro j ys nw v I oI Cc oCc D m₂ h₇ tk₇ E' hj hvj ⟨pa, PL, rfl, rfl, hp⟩ hC hx F₈ N₈ off ne
      have hvj' : v = .ref (ta j) := by
        have := get_rng (ta := ta) hj
        simp only [List.getElem?_toArray] at hvj
        rw [this] at hvj
        exact (Option.some.inj hvj).symm
      subst hvj'
      obtain ⟨tj, uj, jj, hmj⟩ := htg.out j hj
      replace off := Hid.mk off
      replace hp := Hid.mk hp
      k_steps
      refine Halt.out ?_
      obtain ⟨ALL, hALL, N₉⟩ : ∃ ALL : Led, ALL = (I, oI) :: (Cc, oCc) :: (D, LCg.lst ((List.range j).map (tv pa))) :: (PL ++ ((ls, listO sks 0) :: (kl, listO kvs kk) :: (s₁.heap.objs.size + 1, oR') :: (s₁.heap.objs.size + 1 + 1, oN') :: (s₁.heap.objs.size + 1 + 1 + 1, oD) :: (s₁.heap.objs.size + 1 + 1 + 1 + 1, oT) :: (KL ++ Rg ++ own))) ∧ News s₁.heap s₁.heap.objs.size h₇ ALL := ⟨_, rfl, N₈⟩
      clear N₈ N₇ F₇
      k_dflt (refine' call_cls ?k1 ?k2 ?k3 ?k4 ?k5 ?k6 ?_; (case k1 => k_asm); (case k2 => k_asm); (case k3 => k_asm); (case k4 => k_is); (case k5 => k_is); (case k6 => k_is); k_whole; intro x' d' hx' Fx' Nx' lx1 lx2)
      have hnd : ∀ p ∈ ALL, p.1 ≠ d' := fun p hp => Nat.ne_of_lt (lx1 p hp)
      have hpx : ∀ p ∈ ALL, p.1 ≠ x' := fun p hp => Nat.ne_of_lt (Nat.lt_trans (lx1 p hp) lx2)
      have hxd : x' ≠ d' := Nat.ne_of_gt lx2
      clear lx1
      k_dflt (refine' code_def ?k1 ?k2 ?k3 ?k4 ?k5 ?kA ?kF ?kK ?k6 ?k7 ?k8 ?k9 ?kB ?_ ?c2 ?c3 ?c4 ?c5; (case kA => exact rfl); (case kF => exact rfl); (case kK => exact rfl); (case k1 => k_asm); (case k2 => k_asm); (case k3 => k_asm); (case k4 => k_asm); (case k5 => k_asm); (case k6 => k_is); (case k7 => k_is); (case k8 => ktr_room); (case k9 => first | exact BindsTo.of_eq rfl | exact binds_K (by k_in) rfl (by k_is) rfl rfl rfl); (case c5 => decide); (case kB => exact locs rfl); (case c2 => exact rfl); (case c3 => exact rfl); (case c4 => exact rfl); k_whole; intro g' L' h' FG' F' N' B' X' T'; (try dsimp only); (try k_fold))
      k_steps
      rename_i kF kN _ _
      obtain ⟨tkf, kN⟩ := mk_point kN
      clear FG'
      subst hALL
      have hPL : ∀ p ∈ PL, p.1 ≠ x' := fun p hp => hpx p (by k_mem)
      refine LCg.CompEnd.intro kF kN ((x', instObj 31 d') :: (d', dictOf (pointEs w tkf (P j).1 tj (P j).2 uj) 2) :: (PL ++ _)) (fun p hp => ?_) (off3_of fun p hp => ?_) (.inr ⟨_, by k_mem, rfl, _, rfl⟩) ⟨fun k => if k = j then x' else pa k, (x', instObj 31 d') :: (d', dictOf (pointEs w tkf (P j).1 tj (P j).2 uj) 2) :: PL, rfl, Pts.map.symm, hp.out.next hPL⟩
      · simp only [List.mem_cons] at hp ⊢
        rcases hp with h | h | h | h | h | h
        · simp [h]
        · simp [h]
        · simp [h]
        · simp [h]
        · simp [h]
        · simp only [List.mem_append, List.mem_cons] at h ⊢
          simp only [h, or_true]
      · rcases List.mem_cons.mp hp with rfl | hp
        · exact ⟨Ne.symm (hpx (I, oI) (.head _)), Ne.symm (hpx (Cc, oCc) (.tail _ (.head _))), Ne.symm (hpx (D, _) (.tail _ (.tail _ (.head _))))⟩
        · rcases List.mem_cons.mp hp with rfl | hp
          · exact ⟨Ne.symm (hnd (I, oI) (.head _)), Ne.symm (hnd (Cc, oCc) (.tail _ (.head _))), Ne.symm (hnd (D, _) (.tail _ (.tail _ (.head _))))⟩
          · exact off.out.mem p hp
    · rintro ys nw ⟨pa, PL, rfl, rfl, hp⟩
      intro D h₈ tk₈ F₈ N₈ off
      clear F₇ N₇
      k_steps
      refine Halt.out ?_
      rename_i h8 _ _ h9 tk9 t9 u9 v9 hR F9 N9 _
      obtain ⟨BB, hBB, N10⟩ : ∃ BB : Led, BB = (D, LCg.lst ((List.range n).map (tv pa))) :: (PL ++ ((ls, listO sks 0) :: (kl, listO kvs kk) :: (s₁.heap.objs.size + 1, oR') :: (s₁.heap.objs.size + 1 + 1, oN') :: (s₁.heap.objs.size + 1 + 1 + 1, oD) :: (s₁.heap.objs.size + 1 + 1 + 1 + 1, oT) :: (KL ++ Rg ++ own))) ∧ News s₁.heap s₁.heap.objs.size h9 BB := ⟨_, rfl, N9⟩
      have mD : (D, LCg.lst ((List.range n).map (tv pa))) ∈ BB := by rw [hBB]; k_mem
      have mR : (s₁.heap.objs.size + 1, oR') ∈ BB := by rw [hBB]; k_mem
      have mrl : (rl, listO ((List.range n).map (tv ta)) kr) ∈ BB := by rw [hBB]; k_mem
      have mPL : ∀ p ∈ PL, p ∈ BB := fun p hp => by rw [hBB]; k_mem
      have mRg : ∀ p ∈ Rg, p ∈ BB := fun p hp => by rw [hBB]; k_mem
      have F10 := F9
      clear N9 F9
      replace hBB := Hid.mk hBB
      replace off := Hid.mk off
      replace mPL := Hid.mk mPL
      replace mRg := Hid.mk mRg
      replace hp := Hid.mk hp
      refine range_up (n := n) (fun k m nx => ∃ tm', m (Str.ofString "many") = some (.int (n : Int) tm') ∧ m (Str.ofString "kept") = some (.ref kl) ∧ m (Str.ofString "skip") = some (.int (c : Int) tc) ∧ m (Str.ofString "points") = some (.ref D) ∧ ((k = 0 ∧ m (Str.ofString "node") = some .none ∧ nx = BB) ∨ (0 < k ∧ ∃ rec pr nx', m (Str.ofString "node") = some (.ref (rec (k - 1)).a) ∧ nx = ringL w k rec pr nx' ++ BB ∧ Built k P pa rec pr nx' BB))) rfl hR (by omega) F10 N10 ⟨tm, rfl, rfl, rfl, rfl, .inl ⟨rfl, rfl, rfl⟩⟩ ?_ ?_
      · rintro k tk' m₂ nx₂ h₁₀ tk₁₀ ow2 hk ho2 ⟨tm', q1, q2, q3, q4, hcase⟩ F11 N11
        change Fr s₁.heap s₁.heap.objs.size h₁₀ _ at F11
        change News s₁.heap s₁.heap.objs.size h₁₀ _ at N11
        obtain ⟨dk, tkk, txk, tyk, mk1, mk2⟩ := hp.out.at' k hk
        have mk1 := mPL.out _ mk1
        have mk2 := mPL.out _ mk2
        clear F10 N10
        rcases hcase with ⟨hk0, q5, hnx⟩ | ⟨hk0, rec, pr, nx', q5, hnx, hB⟩
        · rw [hnx] at N11 ho2
          clear hnx
          replace ho2 := Hid.mk ho2
          rw [one_name q1, one_name q2, one_name q3, one_name q4, one_name q5] at F11
          k_steps
          refine Halt.out ?_
          k_dflt (refine' item_led (vs := (List.range n).map (tv pa)) (n := ((List.range n).map (tv pa)).length) (v := .ref (pa k)) ?k1 ?k2 (by omega) (by omega) (by simpa using get_rng (ta := pa) hk) ?_; (case k1 => k_asm); (case k2 => k_mem))
          k_steps
          refine Halt.out ?_
          k_dflt (refine insert0_c (List.mem_append_left _ mk1) (List.mem_append_left _ mk2) _ _ _ _ _ _ _ _ _ _ _ _ _ _ _ _ _ B (by assumption) X (by assumption) T rfl (by decide) (by decide) ?_)
          rintro v news' h₁₁ tk₁₁ F₁₁ N₁₁ ⟨r, rfl, e1, e2, e3, hf, rfl⟩
          replace hf := Hid.mk hf
          clear N11 F11
          k_steps
          subst hk0
          refine InvEndG.intro (by assumption) (by assumption) ⟨tm', rfl, rfl, rfl, rfl, .inr ⟨by decide, fun _ => r, fun _ => 0, fun _ => 0, rfl, rfl, Built.start hf.out e1 e2 e3⟩⟩ (own_ring (fun q hq j _ => hf.out q (List.mem_append_right _ hq)) ho2.out) (fun q hq => ?_) (fun q hq => List.mem_append_right _ (List.mem_append_right _ hq))
          rcases List.mem_append.mp hq with hq | hq
          · exact List.mem_append_left _ hq
          · exact List.mem_append_right _ (List.mem_append_left _ hq)
        · rw [hnx] at N11 ho2
          rw [List.append_assoc] at N11
          clear hnx
          have hin := hB.hin
          have S := own_sep hB.sep ho2
          have hkn : k - 1 < k := by omega
          replace hin := Hid.mk hin
          replace S := Hid.mk S
          replace hB := Hid.mk hB
          replace ho2 := Hid.mk ho2
          rw [one_name q1, one_name q2, one_name q3, one_name q4, one_name q5] at F11
          k_steps
          refine Halt.out ?_
          k_dflt (refine' item_led (vs := (List.range n).map (tv pa)) (n := ((List.range n).map (tv pa)).length) (v := .ref (pa k)) ?k1 ?k2 (by omega) (by omega) (by simpa using get_rng (ta := pa) hk) ?_; (case k1 => k_asm); (case k2 => k_mem))
          k_steps
          refine Halt.out ?_
          k_dflt (refine insert_c S.out hkn hin.out (List.mem_append_left _ mk1) (List.mem_append_left _ mk2) _ _ _ _ _ _ _ _ _ _ _ _ _ _ _ _ _ B (by assumption) X (by assumption) T rfl (by decide) (by decide) ?_)
          rintro v news' h₁₁ tk₁₁ F₁₁ N₁₁ ⟨r, rfl, e1, e2, e3, hf, rfl⟩
          replace hf := Hid.mk hf
          clear N11 F11
          k_steps
          refine InvEndG.intro (by assumption) (by assumption) ⟨tm', rfl, rfl, rfl, rfl, .inr ⟨by omega, _, _, _, ?_, rfl, hB.out.next hk0 hf.out e1 e2 e3⟩⟩ (Built.own ho2.out hf.out) (fun q hq => ?_) (fun q hq => List.mem_append_right _ (List.mem_append_right _ hq))
          · show some (Value.ref r.a) = some (Value.ref (ext rec k r (k + 1 - 1)).a)
            simp [ext]
          · rcases List.mem_append.mp hq with hq | hq
            · exact List.mem_append_left _ hq
            · exact List.mem_append_right _ (List.mem_append_left _ hq)
      · rintro m₂ nx₂ h₁₀ tk₁₀ ⟨tm', q1, q2, q3, q4, hcase⟩ F11 N11
        change Fr s₁.heap s₁.heap.objs.size h₁₀ _ at F11
        change News s₁.heap s₁.heap.objs.size h₁₀ _ at N11
        rcases hcase with ⟨hk0, q5, hnx⟩ | ⟨hk0, rec, pr, nx', q5, hnx, hB⟩
        · omega
        rw [hnx] at N11
        clear hnx F10 N10 hR
        replace hB := Hid.mk hB
        rw [one_name q1, one_name q2, one_name q3, one_name q4, one_name q5] at F11
        have hnm1 : n - 1 < n := by omega
        have hnx1 := range_last hn1 hB.out.cyc
        have hasked := Asked.of hB.out hp.out mPL.out htg.out mRg.out mD mrl
        obtain ⟨t0, ht0⟩ := range_cons hn1
        have hcy0 : Cyc nx' pr (0 :: t0) := ht0 ▸ hB.out.cyc
        have hnd0 : (0 :: t0).Nodup := ht0 ▸ List.nodup_range
        have hlt0 : ∀ x ∈ 0 :: t0, x < n := fun x hx => List.mem_range.mp (ht0 ▸ hx)
        replace hasked := Hid.mk hasked
        replace hcy0 := Hid.mk hcy0
        replace hnd0 := Hid.mk hnd0
        replace hlt0 := Hid.mk hlt0
        replace ht0 := Hid.mk ht0
        k_steps
        simp only [hnx1]
        refine Halt.out ?_
        k_dflt (refine names_c hB.out.sep hasked.out (by omega) hcy0.out hnd0.out hlt0.out _ _ _ _ _ _ _ _ _ _ _ _ _ _ _ _ _ B (by assumption) X (by assumption) T rfl (by decide) (by decide) ?_)
        rintro v news' h₁₁ tk₁₁ F₁₁ N₁₁ ⟨a, us, kq, rfl, iu, rfl⟩
        clear N11 F11
        k_steps
        rotate_left
        · rename_i hne
          exact absurd (rangeKs_eq ht0.out) hne
        refine Halt.out ?_
        rename_i h12 tk12 t12 u12 v12 hR F12 N12 _
        have F13 := F12
        have N13 : News s₁.heap s₁.heap.objs.size h12 (ringL w n rec pr nx' ++ BB) := fun q hq => N12 q (.tail _ (.tail _ hq))
        change Fr s₁.heap s₁.heap.objs.size h12 _ at F13
        clear F12 N12
        refine range_up (n := c) (fun k m nx => ∃ tm' cc, cc < n ∧ m (Str.ofString "many") = some (.int (n : Int) tm') ∧ m (Str.ofString "kept") = some (.ref kl) ∧ m (Str.ofString "points") = some (.ref D) ∧ m (Str.ofString "node") = some (.ref (rec cc).a) ∧ nx = ringL w n rec pr nx' ++ BB) rfl hR (by omega) F13 N13 ⟨tm', n - 1, hnm1, rfl, rfl, rfl, rfl, rfl⟩ ?_ ?_
        · rintro k tk' m₃ nx₃ h₁₃ tk₁₃ ow3 hk ho3 ⟨tm'', cc, hcc, p1, p2, p3, p4, hnx⟩ F14 N14
          change Fr s₁.heap s₁.heap.objs.size h₁₃ _ at F14
          change News s₁.heap s₁.heap.objs.size h₁₃ _ at N14
          rw [hnx] at N14 ho3
          rw [List.append_assoc] at N14
          clear hnx F13 N13 hR
          have hcx : nx' cc < n := (hB.out.hin cc hcc).2
          replace ho3 := Hid.mk ho3
          rw [one_name p1, one_name p2, one_name p3, one_name p4] at F14
          k_steps
          refine InvEndG.intro (by assumption) (by assumption) ⟨tm'', nx' cc, hcx, rfl, rfl, rfl, rfl, rfl⟩ ho3.out (fun q hq => ?_) (fun q hq => List.mem_append_right _ (List.mem_append_right _ hq))
          rcases List.mem_append.mp hq with hq | hq
          · exact List.mem_append_left _ hq
          · exact List.mem_append_right _ (List.mem_append_left _ hq)
        · rintro m₃ nx₃ h₁₃ tk₁₃ ⟨tm'', cc, hcc, p1, p2, p3, p4, hnx⟩ F14 N14
          change Fr s₁.heap s₁.heap.objs.size h₁₃ _ at F14
          change News s₁.heap s₁.heap.objs.size h₁₃ _ at N14
          rw [hnx] at N14
          clear hnx F13 N13 hR
          rw [one_name p1, one_name p2, one_name p3, one_name p4] at F14
          obtain ⟨t1, hrot⟩ := rot_at hcc
          have hcy1 := hB.out.cyc.turn hrot
          have hnd1 := hrot.nodup List.nodup_range
          have hlt1 : ∀ x ∈ cc :: t1, x < n := fun x hx => List.mem_range.mp ((hrot.mem x).mpr hx)
          have hpP : ∀ k, k < n → ptOf rec k = P k := fun k hk => Prod.ext (hB.out.pt k hk).2.1 (hB.out.pt k hk).2.2
          have hsm : ∀ k, k < n → (rec k).Small := fun k hk => ⟨by rw [(hB.out.pt k hk).2.1]; exact (sm k hk).1, by rw [(hB.out.pt k hk).2.2]; exact (sm k hk).2⟩
          replace hrot := Hid.mk hrot
          replace hcy1 := Hid.mk hcy1
          replace hnd1 := Hid.mk hnd1
          replace hlt1 := Hid.mk hlt1
          replace hpP := Hid.mk hpP
          replace hsm := Hid.mk hsm
          k_steps
          refine Halt.out ?_
          k_dflt (refine filter_c hB.out.sep hsm.out hcy1.out hnd1.out hlt1.out _ _ _ _ _ _ _ _ _ _ _ _ _ _ _ _ _ B (by assumption) X (by assumption) T rfl (by decide) (by decide) ?_)
          rintro v news' h₁₄ tk₁₄ F15 N15 ⟨pr2, nx2, e2, t2', rfl, rfl, fin⟩
          obtain ⟨hRR, hNf⟩ := fin_law fin hrot.out hpP.out
          have hco := hRR.co (co_range n)
          have hsub2 : ∀ x ∈ e2 :: t2', x < n := fin.lt
          have hll2 : (e2 :: t2').length ≤ n := nodup_len fin.nd fin.lt
          replace fin := Hid.mk fin
          replace hRR := Hid.mk hRR
          replace hNf := Hid.mk hNf
          replace hco := Hid.mk hco
          replace hsub2 := Hid.mk hsub2
          clear N14 F14
          k_steps
          refine Halt.out ?_
          k_dflt (refine names_c hB.out.sep hasked.out (by omega) fin.out.cyc fin.out.nd fin.out.lt _ _ _ _ _ _ _ _ _ _ _ _ _ _ _ _ _ B (by assumption) X (by assumption) T rfl (by decide) (by decide) ?_)
          rintro v news' h₁₅ tk₁₅ F16 N16 ⟨a2, us2, k2, rfl, iu2, rfl⟩
          clear N15 F15
          have hul : us2.length = (e2 :: t2').length := by rw [iu2.length, List.length_map]
          clear fin
          generalize (e2 :: t2') = l2 at iu2 hul hRR hNf hco hsub2 hll2
          k_steps
          have N17 : News s₁.heap s₁.heap.objs.size h₁₅ ((s₁.heap.objs.size + 1 + 1, oN') :: (a2, listO us2 k2) :: (ls, listO sks 0) :: (kl, listO kvs kk) :: (s₁.heap.objs.size + 1, oR') :: (s₁.heap.objs.size + 1 + 1 + 1, oD) :: (s₁.heap.objs.size + 1 + 1 + 1 + 1, oT) :: (KL ++ Rg ++ own)) := fun q hq => N16 q (by
            rw [hBB.out]
            simp only [List.mem_cons] at hq
            rcases hq with rfl | rfl | rfl | rfl | rfl | rfl | rfl | hq <;> k_mem)
          have ha2 : a2 ≠ s₁.heap.objs.size + 1 + 1 := apart N17 (.tail _ (.head _)) (.head _) (by rw [dN']; intro h; cases h)
          have F17 := F16
          change Fr s₁.heap s₁.heap.objs.size h₁₅ _ at F17
          clear N16 F16
          refine storeC_led (c := s₁.heap.objs.size + 1 + 1) ((a2, listO us2 k2) :: (ls, listO sks 0) :: (kl, listO kvs kk) :: (s₁.heap.objs.size + 1, oR') :: (s₁.heap.objs.size + 1 + 1 + 1, oD) :: (s₁.heap.objs.size + 1 + 1 + 1 + 1, oT) :: (KL ++ Rg ++ own)) F17 N17 rfl (.head _) dN' ?m2 ?_ rfl rfl
          case m2 =>
            intro q hq
            refine ⟨.tail _ hq, ?_⟩
            simp only [List.mem_cons] at hq
            rcases hq with rfl | rfl | rfl | rfl | rfl | rfl | hq
            · exact ha2
            · exact Nat.ne_of_gt ll.out.2.2.1
            · exact Nat.ne_of_gt lk.out.2.1
            · exact Nat.ne_of_lt (by show _ < _; omega)
            · exact Nat.ne_of_gt (by show _ < _; omega)
            · exact Nat.ne_of_gt (by show _ < _; omega)
            · rcases List.mem_append.mp hq with hq | hq
              · rcases List.mem_append.mp hq with hq | hq
                · exact (hoK.out q hq).2.1
                · exact hof.out _ (by simp) q hq
              · exact ho.out q hq _ (by simp)
          intro h₁₆ oN2 F18 N18 dN2
          clear N17 F17 dN' dN
          k_steps
          refine Halt.out ?_
          k_dflt (refine' len_led (vs := us2) (k := k2) (n := l2.length) ?k1 ?k2 hul (by omega) ?_; (case k1 => k_asm); (case k2 => k_mem))
          k_steps
          · have h1l : 1 < l2.length := by omega
            refine Halt.out ?_
            k_dflt (refine LCt.ListComp_T (F₀ := F18) (by with_unfolding_all rfl) (by decide) (by rfl) (by decide) (by rfl) ?_)
            k_steps
            refine Halt.out ?_
            k_dflt (refine' len_led (vs := us2) (k := k2) (n := l2.length) ?k1 ?k2 hul (by omega) ?_; (case k1 => k_asm); (case k2 => k_mem))
            k_steps
            refine Halt.out ?_
            rename_i h17 t17 u17 v17 hR F19 N19 kp17
            refine LCt.CompSrcT.range (n := l2.length) rfl F19 N19 hR (small_one (by omega) (by omega) (by omega) (by omega)) (by rw [rangeSize_nat]; simp) (by rw [PySem.sizeLine_eq]; omega) ?_
            intro g10
            refine restT (fun i ys nw => nw = ((s₁.heap.objs.size + 1 + 1, oN2) :: (a2, listO us2 k2) :: (ls, listO sks 0) :: (kl, listO kvs kk) :: (s₁.heap.objs.size + 1, oR') :: (s₁.heap.objs.size + 1 + 1 + 1, oD) :: (s₁.heap.objs.size + 1 + 1 + 1 + 1, oT) :: (KL ++ Rg ++ own)) ∧ ys.length = ((List.range i).filter (fun k => decide (l2.getD k 0 ≤ l2.getD (bef l2.length k) 0))).length) ⟨rfl, rfl⟩ ?_ ?_
            · rintro j ys nw v I oI Cc oCc D9 m₉ h₁₈ tk₁₈ E' hj ⟨t₉, rfl⟩ ⟨rfl, iy⟩ hC hx F20 N20 off9 ne9
              have e0 : (0 : Int) + (j : Int) = (j : Int) := by omega
              rw [e0] at hx
              obtain ⟨tb, hvb⟩ := ints_get iu2 (bef_lt hj)
              obtain ⟨tj, hvj⟩ := ints_get iu2 hj
              clear F19 N19 hR
              replace off9 := Hid.mk off9
              k_steps
              refine Halt.out ?_
              k_dflt (refine' item_before (j := j) (vs := us2) (k := k2) (v := .int ((l2.getD (bef l2.length j) 0 : Nat) : Int) tb) ?k1 ?k2 rfl (by omega) (by omega) (by rw [hul]; exact hvb) ?_; (case k1 => k_asm); (case k2 => k_mem))
              k_steps
              refine Halt.out ?_
              k_dflt (refine' item_led (vs := us2) (n := k2) (v := .int ((l2.getD j 0 : Nat) : Int) tj) ?k1 ?k2 (by omega) (by omega) (by simpa using hvj) ?_; (case k1 => k_asm); (case k2 => k_mem))
              k_steps
              · rename_i hle
                refine LCg.CompEnd.intro F20 N20 _ (fun p hp => hp) off9.out trivial ⟨rfl, ?_⟩
                rw [List.range_succ, List.filter_append, List.length_append, List.length_append, iy]
                simp only [List.filter_cons, decide_eq_true (Int.ofNat_le.mp hle), if_true, List.filter_nil, List.length_cons, List.length_nil]
              · rename_i hle
                refine LCg.CompEnd.intro F20 N20 _ (fun p hp => hp) off9.out trivial ⟨rfl, ?_⟩
                rw [List.range_succ, List.filter_append, List.length_append, iy]
                simp only [List.filter_cons, decide_eq_false (fun h => hle (Int.ofNat_le.mpr h)), Bool.false_eq_true, if_false, List.filter_nil, List.length_nil, Nat.add_zero]
            · rintro ys nw ⟨rfl, iy⟩
              intro D9 h₁₈ tk₁₈ F20 N20 off9
              rw [one_seam hco.out h1l] at iy
              k_steps
              refine Halt.out ?_
              k_dflt (refine' len_led (vs := ys) (k := ys.length) (n := 1) ?k1 ?k2 iy (by omega) ?_; (case k1 => k_asm); (case k2 => k_mem))
              k_steps
              have N21 : News s₁.heap s₁.heap.objs.size h₁₈ ((s₁.heap.objs.size + 1 + 1, oN2) :: (a2, listO us2 k2) :: (ls, listO sks 0) :: (kl, listO kvs kk) :: (s₁.heap.objs.size + 1, oR') :: (s₁.heap.objs.size + 1 + 1 + 1, oD) :: (s₁.heap.objs.size + 1 + 1 + 1 + 1, oT) :: (KL ++ Rg ++ own)) := fun q hq => N20 q (.tail _ hq)
              have F21 := F20
              clear N20 F20
              refine Halt.out ?_
              k_dflt (refine LCg.ListComp_U (F₀ := F21) (by with_unfolding_all rfl) (by decide) (by rfl) (by decide) (by rfl) ?_)
              k_steps
              refine Halt.out ?_
              refine LCg.CompSrc.ledger rfl F21 N21 (by k_mem) (by rw [PySem.sizeLine_eq, List.size_toArray, hul]; omega) ?_
              intro g11
              rw [show us2.toArray.size = l2.length by rw [List.size_toArray, hul]]
              refine restU (fun i ys nw => nw = ((s₁.heap.objs.size + 1 + 1, oN2) :: (a2, listO us2 k2) :: (ls, listO sks 0) :: (kl, listO kvs kk) :: (s₁.heap.objs.size + 1, oR') :: (s₁.heap.objs.size + 1 + 1 + 1, oD) :: (s₁.heap.objs.size + 1 + 1 + 1 + 1, oT) :: (KL ++ Rg ++ own)) ∧ ys = (l2.take i).map (tv ta)) ⟨rfl, rfl⟩ ?_ ?_
              · rintro j ys nw v I oI Cc oCc D7 m₉ h₁₈ tk₁₈ E' hj hvj ⟨rfl, rfl⟩ hC hx F22 N22 off7 ne7
                obtain ⟨tj, hvj2⟩ := ints_get iu2 hj
                have hvv : v = .int ((l2.getD j 0 : Nat) : Int) tj := by
                  simp only [List.getElem?_toArray] at hvj
                  rw [hvj2] at hvj
                  exact (Option.some.inj hvj).symm
                subst hvv
                have hlj : l2.getD j 0 < n := hsub2.out _ (Mine.getD_mem hj)
                clear F21 N21
                replace off7 := Hid.mk off7
                k_steps
                refine Halt.out ?_
                k_dflt (refine' item_led (vs := (List.range n).map (tv ta)) (n := kr) (v := .ref (ta (l2.getD j 0))) ?k1 ?k2 (by omega) (by omega) (by simpa using get_rng (ta := ta) hlj) ?_; (case k1 => k_asm); (case k2 => k_mem))
                k_steps
                refine LCg.CompEnd.intro F22 N22 _ (fun p hp => hp) off7.out (.inr ⟨_, by k_mem, rfl, _, rfl⟩) ⟨rfl, ?_⟩
                rw [take_getD hj, List.map_append]; rfl
              · rintro ys nw ⟨rfl, rfl⟩
                intro D7 h₁₈ tk₁₈ F22 N22 off7
                rw [List.take_length] at N22
                have hD7 := off1_mem off7
                replace off7 := Hid.mk off7
                replace hD7 := Hid.mk hD7
                clear F21 N21
                k_steps
                refine Halt.out ?_
                k_dflt (refine append_led (vs := kvs) (k := kk) ((D7, LCg.lst (l2.map (tv ta))) :: (ls, listO sks 0) :: (s₁.heap.objs.size + 1, oR') :: (s₁.heap.objs.size + 1 + 1, oN2) :: (s₁.heap.objs.size + 1 + 1 + 1, oD) :: (s₁.heap.objs.size + 1 + 1 + 1 + 1, oT) :: (KL ++ Rg ++ own)) (by k_asm) (by k_asm) (by k_mem) ?_ ?_ ?_)
                · intro q hq
                  simp only [List.mem_cons] at hq
                  rcases hq with rfl | rfl | rfl | rfl | rfl | rfl | hq
                  · exact ⟨by k_mem, Ne.symm (hD7.out (kl, listO kvs kk) (by k_mem))⟩
                  · exact ⟨by k_mem, Nat.ne_of_gt ll.out.1⟩
                  · exact ⟨by k_mem, Nat.ne_of_lt lk.out.1⟩
                  · exact ⟨by k_mem, Nat.ne_of_lt lk.out.2.1⟩
                  · exact ⟨by k_mem, Nat.ne_of_lt lk.out.2.2.1⟩
                  · exact ⟨by k_mem, Nat.ne_of_lt lk.out.2.2.2.1⟩
                  · refine ⟨by k_mem, ?_⟩
                    rcases List.mem_append.mp hq with hq | hq
                    · rcases List.mem_append.mp hq with hq | hq
                      · exact (hoK.out q hq).1
                      · exact Nat.ne_of_lt (tb_ltOf lk.out.2.2.2.2 q hq)
                    · exact ho.out q hq _ (by simp)
                · have := (List.getElem?_eq_some_iff.mp hv).1
                  omega
                intro h₁₉ F23 N23
                k_steps
                refine InvEndG.intro F23 N23 ⟨.head _, kvs ++ [.ref D7], kk + 1, oN2, _, (D7, LCg.lst (l2.map (tv ta))) :: KL, tm'', rfl, rfl, rfl, dN2, by rw [List.length_append, hkl]; rfl, ?_, ?_⟩ ?_ ?_ ?_
                · intro v hv'
                  rcases List.mem_append.mp hv' with hv' | hv'
                  · obtain ⟨a', l', k', e1, e2', e3, e4⟩ := hkept.out v hv'
                    exact ⟨a', l', k', e1, .tail _ e2', e3, e4⟩
                  · exact ⟨D7, l2, _, List.mem_singleton.mp hv', .head _, hRR.out, hNf.out⟩
                · intro p hp'
                  rcases List.mem_cons.mp hp' with rfl | hp'
                  · exact ⟨Ne.symm (hD7.out (kl, listO kvs kk) (by k_mem)), Ne.symm (hD7.out (_, oN2) (by k_mem)), Ne.symm (hD7.out (_, oD) (by k_mem)), Ne.symm (hD7.out (_, oT) (by k_mem))⟩
                  · exact hoK.out p hp'
                · intro p hp' b hb
                  simp only [List.cons_append, List.map_cons, List.map_append, List.mem_cons] at hb
                  rcases hb with rfl | rfl | rfl | rfl | rfl | rfl | rfl | hb
                  · exact ho.out p hp' _ (by simp)
                  · exact ho.out p hp' _ (by simp)
                  · exact ho.out p hp' _ (by simp)
                  · exact ho.out p hp' _ (by simp)
                  · exact ho.out p hp' _ (by simp)
                  · exact ho.out p hp' _ (by simp)
                  · exact hD7.out p (by k_mem)
                  · exact ho.out p hp' b (by simp only [List.map_cons, List.map_append, List.mem_cons]; simp only [hb, or_true])
                · intro q hq
                  simp only [List.cons_append, List.mem_cons] at hq
                  rcases hq with rfl | rfl | rfl | rfl | rfl | rfl | rfl | hq
                  · k_mem
                  · k_mem
                  · k_mem
                  · k_mem
                  · k_mem
                  · k_mem
                  · k_mem
                  · exact .tail _ (.tail _ (.tail _ (.tail _ (.tail _ (.tail _ (.tail _ (List.mem_append_left _ hq)))))))
                · intro q hq
                  exact .tail _ (.tail _ (.tail _ (.tail _ (.tail _ (.tail _ (.tail _ (List.mem_append_right _ hq)))))))
          · have N21 := N18
            have F21 := F18
            clear N18 F18
            refine Halt.out ?_
            k_dflt (refine LCg.ListComp_U (F₀ := F21) (by with_unfolding_all rfl) (by decide) (by rfl) (by decide) (by rfl) ?_)
            k_steps
            refine Halt.out ?_
            refine LCg.CompSrc.ledger rfl F21 N21 (by k_mem) (by rw [PySem.sizeLine_eq, List.size_toArray, hul]; omega) ?_
            intro g11
            rw [show us2.toArray.size = l2.length by rw [List.size_toArray, hul]]
            refine restU (fun i ys nw => nw = ((s₁.heap.objs.size + 1 + 1, oN2) :: (a2, listO us2 k2) :: (ls, listO sks 0) :: (kl, listO kvs kk) :: (s₁.heap.objs.size + 1, oR') :: (s₁.heap.objs.size + 1 + 1 + 1, oD) :: (s₁.heap.objs.size + 1 + 1 + 1 + 1, oT) :: (KL ++ Rg ++ own)) ∧ ys = (l2.take i).map (tv ta)) ⟨rfl, rfl⟩ ?_ ?_
            · rintro j ys nw v I oI Cc oCc D7 m₉ h₁₈ tk₁₈ E' hj hvj ⟨rfl, rfl⟩ hC hx F22 N22 off7 ne7
              obtain ⟨tj, hvj2⟩ := ints_get iu2 hj
              have hvv : v = .int ((l2.getD j 0 : Nat) : Int) tj := by
                simp only [List.getElem?_toArray] at hvj
                rw [hvj2] at hvj
                exact (Option.some.inj hvj).symm
              subst hvv
              have hlj : l2.getD j 0 < n := hsub2.out _ (Mine.getD_mem hj)
              clear F21 N21
              replace off7 := Hid.mk off7
              k_steps
              refine Halt.out ?_
              k_dflt (refine' item_led (vs := (List.range n).map (tv ta)) (n := kr) (v := .ref (ta (l2.getD j 0))) ?k1 ?k2 (by omega) (by omega) (by simpa using get_rng (ta := ta) hlj) ?_; (case k1 => k_asm); (case k2 => k_mem))
              k_steps
              refine LCg.CompEnd.intro F22 N22 _ (fun p hp => hp) off7.out (.inr ⟨_, by k_mem, rfl, _, rfl⟩) ⟨rfl, ?_⟩
              rw [take_getD hj, List.map_append]; rfl
            · rintro ys nw ⟨rfl, rfl⟩
              intro D7 h₁₈ tk₁₈ F22 N22 off7
              rw [List.take_length] at N22
              have hD7 := off1_mem off7
              replace off7 := Hid.mk off7
              replace hD7 := Hid.mk hD7
              clear F21 N21
              k_steps
              refine Halt.out ?_
              k_dflt (refine append_led (vs := kvs) (k := kk) ((D7, LCg.lst (l2.map (tv ta))) :: (ls, listO sks 0) :: (s₁.heap.objs.size + 1, oR') :: (s₁.heap.objs.size + 1 + 1, oN2) :: (s₁.heap.objs.size + 1 + 1 + 1, oD) :: (s₁.heap.objs.size + 1 + 1 + 1 + 1, oT) :: (KL ++ Rg ++ own)) (by k_asm) (by k_asm) (by k_mem) ?_ ?_ ?_)
              · intro q hq
                simp only [List.mem_cons] at hq
                rcases hq with rfl | rfl | rfl | rfl | rfl | rfl | hq
                · exact ⟨by k_mem, Ne.symm (hD7.out (kl, listO kvs kk) (by k_mem))⟩
                · exact ⟨by k_mem, Nat.ne_of_gt ll.out.1⟩
                · exact ⟨by k_mem, Nat.ne_of_lt lk.out.1⟩
                · exact ⟨by k_mem, Nat.ne_of_lt lk.out.2.1⟩
                · exact ⟨by k_mem, Nat.ne_of_lt lk.out.2.2.1⟩
                · exact ⟨by k_mem, Nat.ne_of_lt lk.out.2.2.2.1⟩
                · refine ⟨by k_mem, ?_⟩
                  rcases List.mem_append.mp hq with hq | hq
                  · rcases List.mem_append.mp hq with hq | hq
                    · exact (hoK.out q hq).1
                    · exact Nat.ne_of_lt (tb_ltOf lk.out.2.2.2.2 q hq)
                  · exact ho.out q hq _ (by simp)
              · have := (List.getElem?_eq_some_iff.mp hv).1
                omega
              intro h₁₉ F23 N23
              k_steps
              refine InvEndG.intro F23 N23 ⟨.head _, kvs ++ [.ref D7], kk + 1, oN2, _, (D7, LCg.lst (l2.map (tv ta))) :: KL, tm'', rfl, rfl, rfl, dN2, by rw [List.length_append, hkl]; rfl, ?_, ?_⟩ ?_ ?_ ?_
              · intro v hv'
                rcases List.mem_append.mp hv' with hv' | hv'
                · obtain ⟨a', l', k', e1, e2', e3, e4⟩ := hkept.out v hv'
                  exact ⟨a', l', k', e1, .tail _ e2', e3, e4⟩
                · exact ⟨D7, l2, _, List.mem_singleton.mp hv', .head _, hRR.out, hNf.out⟩
              · intro p hp'
                rcases List.mem_cons.mp hp' with rfl | hp'
                · exact ⟨Ne.symm (hD7.out (kl, listO kvs kk) (by k_mem)), Ne.symm (hD7.out (_, oN2) (by k_mem)), Ne.symm (hD7.out (_, oD) (by k_mem)), Ne.symm (hD7.out (_, oT) (by k_mem))⟩
                · exact hoK.out p hp'
              · intro p hp' b hb
                simp only [List.cons_append, List.map_cons, List.map_append, List.mem_cons] at hb
                rcases hb with rfl | rfl | rfl | rfl | rfl | rfl | rfl | hb
                · exact ho.out p hp' _ (by simp)
                · exact ho.out p hp' _ (by simp)
                · exact ho.out p hp' _ (by simp)
                · exact ho.out p hp' _ (by simp)
                · exact ho.out p hp' _ (by simp)
                · exact ho.out p hp' _ (by simp)
                · exact hD7.out p (by k_mem)
                · exact ho.out p hp' b (by simp only [List.map_cons, List.map_append, List.mem_cons]; simp only [hb, or_true])
              · intro q hq
                simp only [List.cons_append, List.mem_cons] at hq
                rcases hq with rfl | rfl | rfl | rfl | rfl | rfl | rfl | hq
                · k_mem
                · k_mem
                · k_mem
                · k_mem
                · k_mem
                · k_mem
                · k_mem
                · exact .tail _ (.tail _ (.tail _ (.tail _ (.tail _ (.tail _ (.tail _ (List.mem_append_left _ hq)))))))
              · intro q hq
                exact .tail _ (.tail _ (.tail _ (.tail _ (.tail _ (.tail _ (.tail _ (List.mem_append_right _ hq)))))))
  · rintro m₁ nx' h₆ tk₆ ⟨kvs, kk, oN', vN', KL, tm, m1, m2, rfl, dN', hkl, hkept, hoK⟩ F₇ N₇
    rw [one_name m1, one_name m2] at F₇
    change Fr s₁.heap s₁.heap.objs.size h₆ _ at F₇
    change News s₁.heap s₁.heap.objs.size h₆ _ at N₇
    clear F₆ N₆'
    replace hlay := Hid.mk hlay
    replace hkept := Hid.mk hkept
    replace hoK := Hid.mk hoK
    replace hof := Hid.mk hof
    replace hsk := Hid.mk hsk
    replace lk := Hid.mk lk
    replace ll := Hid.mk ll
    replace hkl : kvs.length = 3 := hkl.trans hsk3
    have htn : Tups n ta P ((ls, listO sks 0) :: (kl, listO kvs kk) :: (s₁.heap.objs.size + 1, oR') :: (s₁.heap.objs.size + 1 + 1, oN') :: (s₁.heap.objs.size + 1 + 1 + 1, oD) :: (s₁.heap.objs.size + 1 + 1 + 1 + 1, oT) :: (KL ++ Rg)) := fun i hi => by
      obtain ⟨t, u, j, h⟩ := htg i hi
      exact ⟨t, u, j, by k_mem⟩
    replace htg := Hid.mk htg
    replace htn := Hid.mk htn
    k_steps
    refine Halt.out ?_
    k_dflt (refine reduced_c (n := n) (by k_mem) htn.out sm hn1 (by omega) _ _ _ _ _ _ _ _ _ _ _ _ _ _ _ _ _ B (by assumption) X (by assumption) T rfl (by decide) (by decide) ?_)
    rintro v news' h₇ tk₇ F₈ N₈ ⟨a, l, kd, rfl, rfl, hRR, hNf⟩
    have had : a ≠ s₁.heap.objs.size + 1 + 1 + 1 := apart N₈ (.head _) (by k_mem) (by rw [dD]; intro h; cases h)
    have hll : l.length ≤ n := by have := hRR.len; simpa using this
    have hsub : ∀ x ∈ l, x < n := fun x hx => List.mem_range.mp (hRR.sub x hx)
    have hlm : (l.map (tv ta)).length = l.length := List.length_map ..
    replace hRR := Hid.mk hRR
    replace hNf := Hid.mk hNf
    replace hsub := Hid.mk hsub
    clear F₇ N₇
    k_steps
    have F₉ := F₈
    change Fr s₁.heap s₁.heap.objs.size h₇ _ at F₉
    refine storeC_led (c := s₁.heap.objs.size + 1 + 1 + 1) ((a, listO (l.map (tv ta)) kd) :: (ls, listO sks 0) :: (kl, listO kvs kk) :: (s₁.heap.objs.size + 1, oR') :: (s₁.heap.objs.size + 1 + 1, oN') :: (s₁.heap.objs.size + 1 + 1 + 1 + 1, oT) :: (KL ++ Rg)) F₉ N₈ rfl (by k_mem) dD ?m2 ?_ rfl rfl
    case m2 =>
      intro q hq
      simp only [List.mem_cons] at hq
      rcases hq with rfl | rfl | rfl | rfl | rfl | rfl | hq
      · exact ⟨by k_mem, had⟩
      · exact ⟨by k_mem, Nat.ne_of_gt ll.out.2.2.2.1⟩
      · exact ⟨by k_mem, Nat.ne_of_gt lk.out.2.2.1⟩
      · exact ⟨by k_mem, Nat.ne_of_lt (by show _ < _; omega)⟩
      · exact ⟨by k_mem, Nat.ne_of_lt (by show _ < _; omega)⟩
      · exact ⟨by k_mem, Nat.ne_of_gt (by show _ < _; omega)⟩
      · refine ⟨by k_mem, ?_⟩
        rcases List.mem_append.mp hq with hq | hq
        · exact (hoK.out q hq).2.2.1
        · exact hof.out _ (by simp) q hq
    intro h₈ oD2 F₁₀ N₁₀ dD2
    clear F₈ N₈ F₉ dD
    k_steps
    refine Halt.out ?_
    k_dflt (refine' len_led (vs := l.map (tv ta)) (k := kd) (n := l.length) ?k1 ?k2 hlm (by omega) ?_; (case k1 => k_asm); (case k2 => k_mem))
    k_steps
    · have h1l : l.length = 1 := by omega
      refine Halt.out ?_
      k_dflt (refine LCg.ListComp_U (F₀ := F₁₀) (by with_unfolding_all rfl) (by decide) (by rfl) (by decide) (by rfl) ?_)
      k_steps
      refine Halt.out ?_
      refine LCg.CompSrc.ledger rfl F₁₀ N₁₀ (by k_mem) (by rw [PySem.sizeLine_eq, List.size_toArray, hkl]; omega) ?_
      intro g11
      rw [show kvs.toArray.size = 3 by rw [List.size_toArray, hkl]]
      refine restU (fun i ys nw => nw = ((s₁.heap.objs.size + 1 + 1 + 1, oD2) :: (a, listO (l.map (tv ta)) kd) :: (ls, listO sks 0) :: (kl, listO kvs kk) :: (s₁.heap.objs.size + 1, oR') :: (s₁.heap.objs.size + 1 + 1, oN') :: (s₁.heap.objs.size + 1 + 1 + 1 + 1, oT) :: (KL ++ Rg)) ∧ IntsAre ys (List.replicate i 1)) ⟨rfl, .nil⟩ ?_ ?_
      · rintro j ys nw v I oI Cc oCc D7 m₉ h₁₈ tk₁₈ E' hj hvj ⟨rfl, iy⟩ hC hx F22 N22 off7 ne7
        have hvm : v ∈ kvs := by
          simp only [List.getElem?_toArray] at hvj
          exact List.mem_of_getElem? hvj
        obtain ⟨a', l', k', rfl, hm', r', f'⟩ := hkept.out v hvm
        have h1' := due_one hn1 hRR.out hNf.out r' f' h1l
        have hlm' : (l'.map (tv ta)).length = 1 := by rw [List.length_map]; exact h1'
        replace r' := Hid.mk r'
        replace f' := Hid.mk f'
        replace off7 := Hid.mk off7
        clear F₁₀ N₁₀
        k_steps
        refine Halt.out ?_
        k_dflt (refine' len_led (vs := l'.map (tv ta)) (k := k') (n := 1) ?k1 ?k2 hlm' (by omega) ?_; (case k1 => k_asm); (case k2 => k_mem))
        k_steps
        refine LCg.CompEnd.intro F22 N22 _ (fun p hp => hp) off7.out (.inr ⟨_, by k_mem, rfl, _, rfl⟩) ⟨rfl, ?_⟩
        rw [List.replicate_succ']
        exact IntsAre.append iy (.cons _ _ .nil)
      · rintro ys nw ⟨rfl, iy⟩
        intro D7 h₁₈ tk₁₈ F22 N22 off7
        clear F₁₀ N₁₀
        replace off7 := Hid.mk off7
        k_steps
    · have h1l : l.length ≠ 1 := by omega
      refine Halt.out ?_
      refine wpAny_Assign_Name ?_ (by with_unfolding_all rfl)
      k_dflt (refine LCg.ListComp_U (F₀ := F₁₀) (by with_unfolding_all rfl) (by decide) (by rfl) (by decide) (by rfl) ?_)
      k_steps
      refine Halt.out ?_
      k_dflt (refine' len_led (vs := l.map (tv ta)) (k := kd) (n := l.length) ?k1 ?k2 hlm (by omega) ?_; (case k1 => k_asm); (case k2 => k_mem))
      k_steps
      refine Halt.out ?_
      rename_i h17 t17 u17 v17 hR F19 N19 kp17
      refine LCg.CompSrc.range (n := l.length) rfl F19 N19 hR (small_one (by omega) (by omega) (by omega) (by omega)) (by rw [rangeSize_nat]; simp) (by rw [PySem.sizeLine_eq]; omega) ?_
      intro g12
      refine restU (fun i ys nw => ∃ TL, nw = TL ++ ((s₁.heap.objs.size + 1 + 1 + 1, oD2) :: (a, listO (l.map (tv ta)) kd) :: (ls, listO sks 0) :: (kl, listO kvs kk) :: (s₁.heap.objs.size + 1, oR') :: (s₁.heap.objs.size + 1 + 1, oN') :: (s₁.heap.objs.size + 1 + 1 + 1 + 1, oT) :: (KL ++ Rg)) ∧ DatAll (TL ++ Rg) ys ((List.range i).map fun k => dL P (l.drop k ++ l.take k)) ∧ ∀ p ∈ TL, p.1 ≠ s₁.heap.objs.size + 1 + 1 + 1 + 1) ⟨[], rfl, .nil, fun p hp => nomatch hp⟩ ?_ ?_
      · rintro j ys nw v I oI Cc oCc D7 m₉ h₁₈ tk₁₈ E' hj ⟨t₉, rfl⟩ ⟨TL, rfl, dy, hTL⟩ hC hx F22 N22 off7 ne7
        have e0 : (0 : Int) + (j : Int) = (j : Int) := by omega
        rw [e0] at hx
        replace off7 := Hid.mk off7
        replace dy := Hid.mk dy
        replace hTL := Hid.mk hTL
        clear F19 N19 hR
        k_steps
        refine Halt.out ?_
        k_dflt (refine' slice_from (vs := l.map (tv ta)) (k := kd) ?k1 ?k2 ?k3 (by omega) (by omega) ?_ ?s ?t; (case k1 => k_asm); (case k2 => k_asm); (case k3 => k_mem); (case s => with_unfolding_all rfl); (case t => (intro _; with_unfolding_all rfl)))
        intro D1 h₂₁ F24 N24 lD1
        k_steps
        refine Halt.out ?_
        k_dflt (refine' slice_upto (vs := l.map (tv ta)) (k := kd) ?k1 ?k2 ?k3 (by omega) (by omega) ?_ ?s ?t; (case k1 => k_asm); (case k2 => k_asm); (case k3 => k_mem); (case s => with_unfolding_all rfl); (case t => (intro _; with_unfolding_all rfl)))
        intro D2 h₂₂ F25 N25 lD2
        k_steps
        refine Halt.out ?_
        refine add_led F25 N25 (.tail _ (.head _)) (.head _) (by rw [List.length_drop, List.length_take]; omega) ?_
        intro D3 h₂₃ F26 N26 lD3
        have e1 : ((j : Int)).toNat = j := by omega
        rw [e1, ← List.map_drop, ← List.map_take, ← List.map_append] at N26
        refine LCg.CompEnd.intro F26 N26 ((D3, listO ((l.drop j ++ l.take j).map (tv ta)) 0) :: (TL ++ ((s₁.heap.objs.size + 1 + 1 + 1, oD2) :: (a, listO (l.map (tv ta)) kd) :: (ls, listO sks 0) :: (kl, listO kvs kk) :: (s₁.heap.objs.size + 1, oR') :: (s₁.heap.objs.size + 1 + 1, oN') :: (s₁.heap.objs.size + 1 + 1 + 1 + 1, oT) :: (KL ++ Rg)))) (fun p hp => ?_) (off3_of fun p hp => ?_) trivial ⟨(D3, listO ((l.drop j ++ l.take j).map (tv ta)) 0) :: TL, rfl, ?_, ?_⟩
        · rcases List.mem_cons.mp hp with rfl | hp
          · k_mem
          · rcases List.mem_cons.mp hp with rfl | hp
            · k_mem
            · rcases List.mem_cons.mp hp with rfl | hp
              · k_mem
              · rcases List.mem_cons.mp hp with rfl | hp
                · k_mem
                · exact .tail _ (.tail _ (.tail _ (.tail _ (.tail _ (.tail _ hp)))))
        · rcases List.mem_cons.mp hp with rfl | hp
          · exact ⟨Nat.ne_of_gt (lD3 (I, oI) (by k_mem)), Nat.ne_of_gt (lD3 (Cc, oCc) (by k_mem)), Nat.ne_of_gt (lD3 (D7, LCg.lst ys) (by k_mem))⟩
          · exact off7.out.mem p hp
        · have er : (List.range (j + 1)).map (fun k => dL P (l.drop k ++ l.take k)) = (List.range j).map (fun k => dL P (l.drop k ++ l.take k)) ++ [dL P (l.drop j ++ l.take j)] := by rw [List.range_succ, List.map_append]; rfl
          rw [er]
          have hs1 : ∀ p ∈ TL ++ Rg, p ∈ (D3, listO ((l.drop j ++ l.take j).map (tv ta)) 0) :: TL ++ Rg := fun p hp => .tail _ hp
          refine dat_snoc ?_ (dy.out.mono hs1)
          refine dat_in (htg.out.sub fun p hp => hs1 p (List.mem_append_right _ hp)) (fun x hx => hsub.out x ?_) (.head _)
          rcases List.mem_append.mp hx with hx | hx
          · exact List.mem_of_mem_drop hx
          · exact List.mem_of_mem_take hx
        · intro p hp
          rcases List.mem_cons.mp hp with rfl | hp
          · exact Nat.ne_of_gt (lD3 (_, oT) (by k_mem))
          · exact hTL.out p hp
      · rintro ys nw ⟨TL, rfl, dy, hTL⟩
        intro D7 h₁₈ tk₁₈ F22 N22 off7
        have hD7 := off1_mem off7
        clear F19 N19 hR
        refine storeC_led (c := s₁.heap.objs.size + 1 + 1 + 1 + 1) ((D7, LCg.lst ys) :: (TL ++ ((s₁.heap.objs.size + 1 + 1 + 1, oD2) :: (a, listO (l.map (tv ta)) kd) :: (ls, listO sks 0) :: (kl, listO kvs kk) :: (s₁.heap.objs.size + 1, oR') :: (s₁.heap.objs.size + 1 + 1, oN') :: (KL ++ Rg)))) F22 N22 rfl (by k_mem) dT ?m2 ?_ rfl rfl
        case m2 =>
          intro q hq
          rcases List.mem_cons.mp hq with rfl | hq
          · exact ⟨by k_mem, Ne.symm (hD7 (_, oT) (by k_mem))⟩
          rcases List.mem_append.mp hq with hq | hq
          · exact ⟨by k_mem, hTL q hq⟩
          simp only [List.mem_cons] at hq
          rcases hq with rfl | rfl | rfl | rfl | rfl | rfl | hq
          · exact ⟨by k_mem, Nat.ne_of_lt (by show _ < _; omega)⟩
          · exact ⟨by k_mem, apart N22 (by k_mem) (by k_mem) (by rw [dT]; intro h; cases h)⟩
          · exact ⟨by k_mem, Nat.ne_of_gt ll.out.2.2.2.2.1⟩
          · exact ⟨by k_mem, Nat.ne_of_gt lk.out.2.2.2.1⟩
          · exact ⟨by k_mem, Nat.ne_of_lt (by show _ < _; omega)⟩
          · exact ⟨by k_mem, Nat.ne_of_lt (by show _ < _; omega)⟩
          · refine ⟨by k_mem, ?_⟩
            rcases List.mem_append.mp hq with hq | hq
            · exact (hoK.out q hq).2.2.2
            · exact hof.out _ (by simp) q hq
        intro h₁₉ oT2 F23 N23 dT2
        have sTL : ∀ p ∈ TL ++ Rg, p ∈ ((s₁.heap.objs.size + 1 + 1 + 1 + 1, oT2) :: (D7, LCg.lst ys) :: (TL ++ ((s₁.heap.objs.size + 1 + 1 + 1, oD2) :: (a, listO (l.map (tv ta)) kd) :: (ls, listO sks 0) :: (kl, listO kvs kk) :: (s₁.heap.objs.size + 1, oR') :: (s₁.heap.objs.size + 1 + 1, oN') :: (KL ++ Rg)))) := fun p hp => by
          rcases List.mem_append.mp hp with hp | hp
          · k_mem
          · k_mem
        clear F22 N22 dT
        replace off7 := Hid.mk off7
        replace hD7 := Hid.mk hD7
        replace dy := Hid.mk dy
        replace hTL := Hid.mk hTL
        replace sTL := Hid.mk sTL
        k_steps
        refine Halt.out ?_
        k_dflt (refine LCt.ListComp_T (F₀ := F23) (by with_unfolding_all rfl) (by decide) (by rfl) (by decide) (by rfl) ?_)
        k_steps
        refine Halt.out ?_
        refine LCt.CompSrcT.ledger rfl F23 N23 (by k_mem) (by rw [PySem.sizeLine_eq, List.size_toArray, hkl]; omega) ?_
        intro g13
        rw [show kvs.toArray.size = 3 by rw [List.size_toArray, hkl]]
        refine restT (fun i ys' nw => nw = ((s₁.heap.objs.size + 1 + 1 + 1 + 1, oT2) :: (D7, LCg.lst ys) :: (TL ++ ((s₁.heap.objs.size + 1 + 1 + 1, oD2) :: (a, listO (l.map (tv ta)) kd) :: (ls, listO sks 0) :: (kl, listO kvs kk) :: (s₁.heap.objs.size + 1, oR') :: (s₁.heap.objs.size + 1 + 1, oN') :: (KL ++ Rg)))) ∧ ys' = []) ⟨rfl, rfl⟩ ?_ ?_
        · rintro j ys' nw v I oI Cc oCc D8 m₉ h₂₀ tk₂₀ E' hj hvj ⟨rfl, rfl⟩ hC hx F27 N27 off8 ne8
          have hvm : v ∈ kvs := by
            simp only [List.getElem?_toArray] at hvj
            exact List.mem_of_getElem? hvj
          obtain ⟨a', l', k', rfl, hm', r', f'⟩ := hkept.out v hvm
          have hin := due_turn hn1 hRR.out hNf.out r' f' h1l
          have hdx : DatIn (KL ++ Rg) (.ref a') (dL P l') := dat_in (htg.out.sub fun p hp => List.mem_append_right _ hp) (fun x hx => List.mem_range.mp (r'.sub x hx)) (List.mem_append_left _ hm')
          replace r' := Hid.mk r'
          replace f' := Hid.mk f'
          replace hin := Hid.mk hin
          replace hdx := Hid.mk hdx
          replace off8 := Hid.mk off8
          clear F23 N23
          k_steps
          refine Halt.out ?_
          k_dflt (refine' kqd_notIn (oa := LCg.lst ys) (n₁ := TL ++ Rg) (n₂ := KL ++ Rg) ?k1 ?k2 rfl rfl dy.out ?k3 hdx.out ?k4 ?k5 dL_ok ?k6 ?_; (case k1 => k_asm); (case k2 => k_mem); (case k3 => exact fun p hp => .tail _ (.tail _ (.tail _ (sTL.out p hp)))); (case k4 => (intro p hp; k_mem)); (case k5 => (intro d hd; obtain ⟨k, _, rfl⟩ := List.mem_map.mp hd; exact dL_ok)); (case k6 => ke_room))
          simp only [hin.out, decide_true, Bool.not_true]
          k_steps
          refine LCg.CompEnd.intro F27 N27 _ (fun p hp => hp) off8.out (.inr ⟨_, by k_mem, rfl, _, rfl⟩) ⟨rfl, trivial⟩
        · rintro ys' nw ⟨rfl, rfl⟩
          intro D8 h₂₀ tk₂₀ F27 N27 off8
          clear F23 N23
          replace off8 := Hid.mk off8
          k_steps)
end
