import PyProof.Rows.All
import Wide.All
import OpenK.AllK
import Wide.FinOn
import Lean
import PySem.Challenge.RW_fw0034_01
open PySem PySem.W PySem.Calls PyProof.Rows
set_option Elab.async false
set_option maxRecDepth 100000
set_option maxHeartbeats 8000000
namespace Mine
open_top hd for PySem.Challenge.rw_fw0034_01
section
/-- a list's items are these bytes -/
inductive BytesAre : List Value → List (Array UInt8) → Prop
  | nil : BytesAre [] []
  | cons {vs : List Value} {bs : List (Array UInt8)} (b : Array UInt8) (t : Tok) : BytesAre vs bs → BytesAre (Value.bytes b t :: vs) (b :: bs)

theorem BytesAre.length : ∀ {vs : List Value} {bs : List (Array UInt8)}, BytesAre vs bs → vs.length = bs.length
  | _, _, .nil => rfl
  | _, _, .cons _ _ h => by rw [List.length_cons, List.length_cons, h.length]
theorem BytesAre.append : ∀ {vs ws : List Value} {bs cs : List (Array UInt8)}, BytesAre vs bs → BytesAre ws cs → BytesAre (vs ++ ws) (bs ++ cs)
  | _, _, _, _, .nil, k => k
  | _, _, _, _, .cons b t h, k => .cons b t (h.append k)
theorem BytesAre.snoc {vs : List Value} {bs : List (Array UInt8)} (h : BytesAre vs bs) (b : Array UInt8) (t : Tok) : BytesAre (vs ++ [Value.bytes b t]) (bs ++ [b]) := h.append (.cons b t .nil)
theorem BytesAre.take : ∀ {vs : List Value} {bs : List (Array UInt8)}, BytesAre vs bs → ∀ n, BytesAre (vs.take n) (bs.take n)
  | _, _, .nil, n => by simp only [List.take_nil]; exact .nil
  | _, _, .cons _ _ _, 0 => .nil
  | _, _, .cons b t h, n + 1 => .cons b t (h.take n)
theorem BytesAre.drop : ∀ {vs : List Value} {bs : List (Array UInt8)}, BytesAre vs bs → ∀ n, BytesAre (vs.drop n) (bs.drop n)
  | _, _, .nil, n => by simp only [List.drop_nil]; exact .nil
  | _, _, .cons b t h, 0 => .cons b t h
  | _, _, .cons _ _ h, n + 1 => h.drop n
theorem BytesAre.get : ∀ {vs : List Value} {bs : List (Array UInt8)}, BytesAre vs bs → ∀ {k : Nat}, k < bs.length → ∃ t, vs[k]? = some (Value.bytes (bs.getD k #[]) t)
  | _, _, .nil, _, hk => absurd hk (Nat.not_lt_zero _)
  | _, _, .cons _ t _, 0, _ => ⟨t, rfl⟩
  | _, _, .cons _ _ h, k + 1, hk => h.get (k := k) (Nat.lt_of_succ_lt_succ hk)
theorem BytesAre.set : ∀ {vs : List Value} {bs : List (Array UInt8)}, BytesAre vs bs → ∀ (j : Nat) (b : Array UInt8) (t : Tok), BytesAre (vs.set j (.bytes b t)) (bs.set j b)
  | _, _, .nil, _, _, _ => .nil
  | _, _, .cons _ _ h, 0, b, t => .cons b t h
  | _, _, .cons c u h, j + 1, b, t => .cons c u (h.set j b t)

section
variable {prog : Program} {w : World} {A : Around} {E : Value → Shared → Prop} {s : Shared} {h₀ : Heap} {L l D : Addr} {m : Str → Option Value} {news news' : List (Addr × Obj)} {value slice : PySem.Expr} {vs ws : List Value} {bs cs : List (Array UInt8)} {n n2 : Nat} {k : Int} {u t : Tok}

theorem b_len {Q : Value → Shared → Prop} (N : News h₀ L s.heap news) (hm : (l, listOf vs.toArray n) ∈ news) (hb : BytesAre vs bs) (hz : bs.length ≤ 1000000)
    (h : Q (.int (bs.length : Nat) (s.toks + 1)) { s with toks := s.toks + 1 + 1 }) : wpAny (model prog w) A (call (.builtin "len") [.ref l]) Q E s := by
  have e : vs.toArray.size = bs.length := by simp [hb.length]
  refine Calls.call_len_list (N.isList hm) (by omega) ?_
  rw [e]
  exact h
theorem b_item {Q : Value → Shared → Prop} (N : News h₀ L s.heap news) (hm : (l, listOf vs.toArray n) ∈ news) (hb : BytesAre vs bs) (h0 : 0 ≤ k) (h1 : k < bs.length) (hz : bs.length ≤ 1000000)
    (h : ∀ t, Q (.bytes (bs.getD k.toNat #[]) t) s)
    (hs : subscripted slice false (.ref l) (.int k u) = operate [.ref l, .int k u] (getItem (.ref l) (.int k u)) := by with_unfolding_all rfl) :
    wpAny (model prog w) A (subscriptTail value slice (.ref l) (.int k u)) Q E s := by
  obtain ⟨t, e⟩ := hb.get (k := k.toNat) (by omega)
  exact tail_any (N.isList hm).typeIs slot_list_getitem.lookup (wpAny_getItem_list (N.isList hm) h0 (by omega) (by simpa using e) (h t)) hs
theorem b_itemNeg {Q : Value → Shared → Prop} (N : News h₀ L s.heap news) (hm : (l, listOf vs.toArray n) ∈ news) (hb : BytesAre vs bs) (h0 : k < 0) (h1 : -(bs.length : Int) ≤ k) (hz : bs.length ≤ 1000000)
    (h : ∀ t, Q (.bytes (bs.getD (k + bs.length).toNat #[]) t) s)
    (hs : subscripted slice false (.ref l) (.int k u) = operate [.ref l, .int k u] (getItem (.ref l) (.int k u)) := by with_unfolding_all rfl) :
    wpAny (model prog w) A (subscriptTail value slice (.ref l) (.int k u)) Q E s := by
  have hsz : vs.toArray.size = bs.length := by simp [hb.length]
  obtain ⟨t, e⟩ := hb.get (k := (k + bs.length).toNat) (by omega)
  exact tail_any (N.isList hm).typeIs slot_list_getitem.lookup (wpAny_getItem_list_neg (N.isList hm) h0 (by rw [hsz]; exact h1) (by omega) (by rw [hsz]; simpa using e) (h t)) hs
theorem b_add {Q : Value → Shared → Prop} {l2 : Addr} (F : Fr h₀ L s.heap m) (N : News h₀ L s.heap news) (hm : (l, listOf vs.toArray n) ∈ news) (hm2 : (l2, listOf ws.toArray n2) ∈ news) (hb : BytesAre vs bs) (hc : BytesAre ws cs) (hz : bs.length + cs.length ≤ 1000000)
    (h : ∀ D us h', Fr h₀ L h' m → News h₀ L h' ((D, listOf (List.toArray us) 0) :: news) → (∀ p ∈ news, p.1 < D) → BytesAre us (bs ++ cs) → Q (.ref D) { s with heap := h' }) :
    wpAny (model prog w) A (binaryOp .Add (.ref l) (.ref l2)) Q E s := by
  have q1 := hb.length
  have q2 := hc.length
  refine add_lists F N (N.isList hm) (N.isList hm2) (fun h' F' N' => h _ _ h' F' N' (fun p hp => Heap.lt_size (N p hp).1) (hb.append hc)) ?_
  rw [sizeLine_eq]
  omega
theorem b_list {Q : Value → Shared → Prop} (F : Fr h₀ L s.heap m) (N : News h₀ L s.heap news) (hm : (l, listOf vs.toArray n) ∈ news) (hb : BytesAre vs bs) (hz : bs.length ≤ 1000000)
    (h : ∀ D c h', Fr h₀ L h' m → News h₀ L h' ((D, listOf vs.toArray c) :: news) → (∀ q ∈ news, q.1 < D) → Q (.ref D) { s with heap := h' }) : wpAny (model prog w) A (call (.type "list") [.ref l]) Q E s := by
  have q1 := hb.length
  refine list_copyK F N (N.isList hm) (fun D c h' F' N' l1 => h D c h' F' N' l1) ?_
  rw [sizeLine_eq, List.size_toArray]
  omega
theorem b_append {Q : Value → Shared → Prop} {b : Array UInt8} (F : Fr h₀ L s.heap m) (N : News h₀ L s.heap news) (U : Upd D (listOf vs.toArray n) (listOf (vs ++ [Value.bytes b t]).toArray (n + 1)) news news') (hb : BytesAre vs bs) (hz : bs.length ≤ 1000000)
    (h : ∀ h', Fr h₀ L h' m → News h₀ L h' news' → BytesAre (vs ++ [Value.bytes b t]) (bs ++ [b]) → Q .none { s with heap := h' }) : wpAny (model prog w) A (call (.builtin "list.append") [.ref D, .bytes b t]) Q E s := by
  have q1 := hb.length
  have e : vs.toArray.push (Value.bytes b t) = (vs ++ [Value.bytes b t]).toArray := by simp
  refine append_K (its := vs.toArray) (n := n) F N (by rw [e]; exact U) (fun h' F' N' => h h' F' N' (hb.snoc b t)) ?_
  rw [sizeLine_eq, List.size_toArray]
  omega
theorem b_slice {Q : Value → Shared → Prop} {vl vu : Value} {lo hi : Option Int} (F : Fr h₀ L s.heap m) (N : News h₀ L s.heap news) (hm : (l, listOf vs.toArray n) ∈ news) (pl : IsPart vl lo) (pu : IsPart vu hi) (hb : BytesAre vs bs) (hz : bs.length ≤ 1000000)
    (hc : BytesAre (slicePick vs.toArray lo hi none).toList cs)
    (h : ∀ D ws h', Fr h₀ L h' m → News h₀ L h' ((D, listOf (List.toArray ws) 0) :: news) → (∀ p ∈ news, p.1 < D) → BytesAre ws cs → Q (.ref D) { s with heap := h' })
    (hs : subscripted slice false (.ref l) (.ref s.heap.objs.size) = operate [.ref s.heap.objs.size, .ref l] (getItem (.ref l) (.ref s.heap.objs.size)) := by with_unfolding_all rfl) (ht : ∀ r, letTemporaryGo value (.ref l) r = pure () := by intro _; with_unfolding_all rfl) :
    wpAny (model prog w) A (subscriptTail value slice (.ref l) (.ref s.heap.objs.size)) Q E { s with heap := s.heap.push { cls := .type "slice", data := .fields #[vl, vu, .none] } } := by
  have q1 := hb.length
  refine kmk_slice F N (N.isList hm) pl pu (fun D h' F' N' l1 => h D (slicePick vs.toArray lo hi none).toList h' F' ?_ l1 hc) hs ht ?_
  · rw [Array.toArray_toList]
    exact N'
  · rw [sizeLine_eq, List.size_toArray]
    omega
theorem bs_all (hb : BytesAre vs bs) : BytesAre (slicePick vs.toArray none none none).toList bs := by
  rw [slicePick_all]
  exact hb
theorem bs_upto {y : Int} (hb : BytesAre vs bs) (h : 0 ≤ y) : BytesAre (slicePick vs.toArray none (some y) none).toList (bs.take y.toNat) := by
  have e : sliceBounds none (some y) none vs.toArray.size = (((0 : Nat) : Int), ((min y.toNat vs.toArray.size : Nat) : Int), 1) := by
    simp only [sliceBounds, Option.getD_none, show (1 : Int) > 0 by decide, if_true, if_neg (show ¬ (y < 0) by omega)]
    congr 1
    congr 1
    omega
  rw [kmk_pick_nat _ e]
  show BytesAre ((vs.drop 0).take (min y.toNat vs.toArray.size - 0)) _
  rw [List.drop_zero, Nat.sub_zero, List.size_toArray, kmk_take_min]
  exact hb.take _
theorem bs_from {x : Int} (hb : BytesAre vs bs) (h : 0 ≤ x) : BytesAre (slicePick vs.toArray (some x) none none).toList (bs.drop x.toNat) := by
  have e : sliceBounds (some x) none none vs.toArray.size = (((min x.toNat vs.toArray.size : Nat) : Int), ((vs.toArray.size : Nat) : Int), 1) := by
    simp only [sliceBounds, Option.getD_none, show (1 : Int) > 0 by decide, if_true, if_neg (show ¬ (x < 0) by omega)]
    congr 1
    omega
  rw [kmk_pick_nat _ e]
  show BytesAre ((vs.drop (min x.toNat vs.toArray.size)).take (vs.toArray.size - min x.toNat vs.toArray.size)) _
  rw [List.size_toArray, kmk_drop_min, List.take_of_length_le (by rw [List.length_drop]; omega)]
  exact hb.drop _
theorem bs_fromNeg {x : Int} (hb : BytesAre vs bs) (h : x < 0) : BytesAre (slicePick vs.toArray (some x) none none).toList (bs.drop (bs.length - (-x).toNat)) := by
  have e : sliceBounds (some x) none none vs.toArray.size = (((vs.toArray.size - (-x).toNat : Nat) : Int), ((vs.toArray.size : Nat) : Int), 1) := by
    simp only [sliceBounds, Option.getD_none, show (1 : Int) > 0 by decide, if_true, if_pos h]
    congr 1
    omega
  rw [kmk_pick_nat _ e]
  show BytesAre ((vs.drop (vs.toArray.size - (-x).toNat)).take (vs.toArray.size - (vs.toArray.size - (-x).toNat))) _
  rw [List.size_toArray, List.take_of_length_le (by rw [List.length_drop]; omega), hb.length]
  exact hb.drop _
theorem b_set {Q : Unit → Shared → Prop} {b : Array UInt8} (F : Fr h₀ L s.heap m) (N : News h₀ L s.heap news) (U : Upd D (listOf vs.toArray n) (listOf (vs.set k.toNat (.bytes b t)).toArray n) news news') (hb : BytesAre vs bs) (h0 : 0 ≤ k) (h1 : k < bs.length) (hz : bs.length ≤ 1000000)
    (h : ∀ h', Fr h₀ L h' m → News h₀ L h' news' → BytesAre (vs.set k.toNat (.bytes b t)) (bs.set k.toNat b) → Q () { s with heap := h' }) :
    wpAny (model prog w) A (setItem (.ref D) (.int k u) (.bytes b t)) Q E s := by
  obtain ⟨pre, post, rfl, rfl, a, c⟩ := U.split
  have z := N (D, listOf vs.toArray n) (List.mem_append.mpr (.inr (.head _)))
  have hl : vs.length = bs.length := hb.length
  have hs : vs.toArray.size = bs.length := by rw [List.size_toArray]; exact hl
  refine ki_setAt z.1 h0 (by omega) (by omega) (h _ (F.change (Heap.SameBut.update ..) z.2.1 z.2.2) (ki_turn _ N a c ?_ ?_) (hb.set _ _ _))
  · show vs.toArray.setIfInBounds k.toNat (.bytes b t) = (vs.set k.toNat (.bytes b t)).toArray
    apply Array.toList_inj.mp
    simp
  · simp
theorem b_eq {Q : Value → Shared → Prop} {b c : Array UInt8} (h : Q (.bool (decide (b = c))) s) : wpAny (model prog w) A (compareOp .Eq (.bytes b t) (.bytes c u)) Q E s := by
  refine eq_bytes ?_
  have e : (b.toList == c.toList) = decide (b = c) := by
    by_cases q : b = c
    · subst q; simp
    · have : b.toList ≠ c.toList := fun x => q (Array.toList_inj.mp x)
      simp [q, this]
  rw [e]; exact h
theorem b_ne {Q : Value → Shared → Prop} {b c : Array UInt8} (h : Q (.bool (decide (b ≠ c))) s) : wpAny (model prog w) A (compareOp .NotEq (.bytes b t) (.bytes c u)) Q E s := by
  refine ne_bytes ?_
  have e : (b.toList != c.toList) = decide (b ≠ c) := by
    by_cases q : b = c
    · subst q; simp
    · have : b.toList ≠ c.toList := fun x => q (Array.toList_inj.mp x)
      simp [q, this]
  rw [e]; exact h
end

section
variable {prog : Program} {w : World} {A : Around} {E : Value → Shared → Prop} {s : Shared} {h₀ : Heap} {L l D : Addr} {m : Str → Option Value} {news news' : List (Addr × Obj)} {value slice : PySem.Expr} {vs ws : List Value} {bs cs : List (Array UInt8)} {n n2 : Nat} {k : Int} {u t : Tok}
def Small (bs : List (Array UInt8)) : Prop := bs.length ≤ 1000 ∧ ∀ x ∈ bs, x.size ≤ 1000000
theorem small_getD (h : Small bs) (k : Nat) : (bs.getD k #[]).size ≤ 1000000 := by
  by_cases hk : k < bs.length
  · rw [List.getD_eq_getElem?_getD, List.getElem?_eq_getElem hk]
    exact h.2 _ (List.getElem_mem hk)
  · rw [List.getD_eq_getElem?_getD, List.getElem?_eq_none (Nat.le_of_not_lt hk)]
    exact Nat.zero_le _
theorem b_itemS {Q : Value → Shared → Prop} (N : News h₀ L s.heap news) (hm : (l, listOf vs.toArray n) ∈ news) (hb : BytesAre vs bs) (hS : Small bs) (h0 : 0 ≤ k) (h1 : k < bs.length)
    (h : ∀ b t, b = bs.getD k.toNat #[] → b.size ≤ 1000000 → Q (.bytes b t) s)
    (hs : subscripted slice false (.ref l) (.int k u) = operate [.ref l, .int k u] (getItem (.ref l) (.int k u)) := by with_unfolding_all rfl) :
    wpAny (model prog w) A (subscriptTail value slice (.ref l) (.int k u)) Q E s :=
  b_item N hm hb h0 h1 (Nat.le_trans hS.1 (by decide)) (fun t => h _ t rfl (small_getD hS _)) hs
theorem b_itemNegS {Q : Value → Shared → Prop} (N : News h₀ L s.heap news) (hm : (l, listOf vs.toArray n) ∈ news) (hb : BytesAre vs bs) (hS : Small bs) (h0 : k < 0) (h1 : -(bs.length : Int) ≤ k)
    (h : ∀ b t, b = bs.getD (k + bs.length).toNat #[] → b.size ≤ 1000000 → Q (.bytes b t) s)
    (hs : subscripted slice false (.ref l) (.int k u) = operate [.ref l, .int k u] (getItem (.ref l) (.int k u)) := by with_unfolding_all rfl) :
    wpAny (model prog w) A (subscriptTail value slice (.ref l) (.int k u)) Q E s :=
  b_itemNeg N hm hb h0 h1 (Nat.le_trans hS.1 (by decide)) (fun t => h _ t rfl (small_getD hS _)) hs
end

section
variable {prog : Program} {w : World} {A : Around} {E : Value → Shared → Prop} {s : Shared} {env : Env} {h₀ : Heap} {x : Str} {body : List Stmt} {Q : Flow → Shared → Prop}
/-- between the turns: the list D has grown, all else of the ledger and the frame (but the loop's own name) stands -/
def GrowJ (x : Str) (m₀ : Str → Option Value) (D : Addr) (cst : List (Addr × Obj)) (R : List Value → Prop) (m : Str → Option Value) (nx : List (Addr × Obj)) : Prop :=
  ∃ ws k, nx = (D, listOf (List.toArray ws) k) :: cst ∧ R ws ∧ ∀ y, y ≠ x → m y = m₀ y
theorem fr_off {L : Addr} {h : Heap} {v : Option Value} {m m₀ : Str → Option Value} (F : Fr h₀ L h (fun y => if y = x then v else m y)) (hm : ∀ y, y ≠ x → m y = m₀ y) : Fr h₀ L h (fun y => if y = x then v else m₀ y) := by
  have e : (fun y => if y = x then v else m y) = fun y => if y = x then v else m₀ y := by
    funext y
    by_cases h : y = x
    · rw [if_pos h, if_pos h]
    · rw [if_neg h, if_neg h, hm y h]
  rw [← e]; exact F
theorem grow_end {L D : Addr} {m₀ m' : Str → Option Value} {cst own news' : List (Addr × Obj)} {R : List Value → Prop} {ws : List Value} {k : Nat} {s₁ : Shared} {h' : Heap} {tk : Nat} (F : Fr h₀ L h' m') (N : News h₀ L h' news') (ho : OwnOff own (D :: cst.map (·.1)))
    (hn : ∀ p ∈ (D, listOf (List.toArray ws) k) :: (cst ++ own), p ∈ news') (hR : R ws) (hm : ∀ y, y ≠ x → m' y = m₀ y) : InvEndG h₀ L (GrowJ x m₀ D cst R) own s₁ { s₁ with heap := h', toks := tk } := by
  refine InvEndG.intro (nx := (D, listOf (List.toArray ws) k) :: cst) F N ⟨ws, k, rfl, hR, hm⟩ ho (fun p hp => hn p ?_) fun p hp => hn p (.tail _ (List.mem_append.mpr (.inr hp)))
  rcases List.mem_cons.mp hp with rfl | hp
  · exact .head _
  · exact .tail _ (List.mem_append.mpr (.inl hp))
theorem b_range {r : Addr} {a₀ b₀ c : Int} {t₀ u₀ v₀ : Tok} {n : Nat} {m₀ : Str → Option Value} {news₀ cst : List (Addr × Obj)} {D : Addr} {ws₀ : List Value} {k₀ : Nat} (R : Nat → List Value → Prop)
    (hh : A.handled = none) (hr : IsRange s.heap r a₀ b₀ c t₀ u₀ v₀) (hsmall : Builtin.Range.small a₀ b₀ c = true) (hsz : Builtin.Range.rangeSize a₀ b₀ c = (n : Int))
    (F : Fr h₀ env.locals s.heap m₀) (N : News h₀ env.locals s.heap news₀) (hn₀ : news₀ = (D, listOf (List.toArray ws₀) k₀) :: cst) (hD : ∀ p ∈ cst, p.1 ≠ D) (hR : R 0 ws₀)
    (turn : ∀ i ws k t h tk own, i < n → R i ws → OwnOff own (D :: cst.map (·.1)) → (∀ p ∈ cst ++ own, p.1 ≠ D) → (∀ p ∈ cst, p ∈ (D, listOf (List.toArray ws) k) :: (cst ++ own)) → Fr h₀ env.locals h (fun y => if y = x then some (.int (a₀ + (i : Nat) * c) t) else m₀ y) → News h₀ env.locals h ((D, listOf (List.toArray ws) k) :: (cst ++ own)) →
      wpAny (model prog w) A (execs body env) (InvPostG h₀ env.locals (GrowJ x m₀ D cst (R (i + 1))) own { s with heap := h, toks := tk } Q) E { s with heap := h, toks := tk })
    (done : ∀ ws k u h tk, R n ws → Fr h₀ env.locals h (fun y => if y = x then u else m₀ y) → News h₀ env.locals h ((D, listOf (List.toArray ws) k) :: cst) → Q .next { s with heap := h, toks := tk }) :
    wpAny (model prog w) A (pyIter (.ref r)) (fun it s₂ => LoopAtV prog w A h₀ env x body Q E it s₂) E s := by
  subst hn₀
  refine wpAny_pyIter_range hr hsmall ?_
  have W : Walks prog w A s.heap.objs.size [s.heap.objs.size] [s.heap.objs.size] n (fun i v => i < n ∧ ∃ t, v = .int (a₀ + i * c) t)
      (fun i h => IsRangeIter h s.heap.objs.size (a₀ + (i : Nat) * c) ((n : Int) - (i : Nat)) c) := (Walks.range hh _ a₀ c n).bound
  refine kdr_loop (m₀ := m₀) (news := (D, listOf (List.toArray ws₀) k₀) :: cst) (fun i m nx => GrowJ x m₀ D cst (R i) m nx) W (fun _ h => h) (fun _ h => h) ?_ ?_ ?_ ?_ (by show IsRangeIter _ _ _ _ _; rw [hsz]; simpa using Heap.get?_push_size _ rfl) (F.push _) (fun p hp => ⟨Heap.get?_push_of_some _ (N p hp).1, (N p hp).2⟩) ⟨ws₀, k₀, rfl, hR, fun _ _ => rfl⟩ ?_ ?_
  · intro i h hi b hb
    rw [List.mem_singleton.mp hb]
    exact ⟨_, hi⟩
  · intro hm
    exact absurd F.ns.lt ((List.mem_singleton.mp hm) ▸ Nat.lt_irrefl _)
  · intro b hb
    rw [List.mem_singleton.mp hb]
    exact next_is_new F
  · intro p hp hI
    exact absurd (Heap.lt_size (N p hp).1) ((List.mem_singleton.mp hI) ▸ Nat.lt_irrefl _)
  · rintro i v m₁ nx h tk own hi ⟨_, t, rfl⟩ hoff ⟨ws, k, rfl, hRi, hm⟩ F₁ N₁
    refine turn i ws k t h tk own hi hRi hoff (fun p hp => ?_) (fun p hp => .tail _ (List.mem_append.mpr (.inl hp))) (fr_off F₁ hm) N₁
    rcases List.mem_append.mp hp with hp | hp
    · exact hD p hp
    · exact hoff p hp D (.head _)
  · rintro m₁ nx h tk ⟨ws, k, rfl, hRn, hm⟩ F₁ N₁
    refine done ws k (m₁ x) h tk hRn (fr_off (m := m₁) ?_ hm) N₁
    have e : (fun y => if y = x then m₁ x else m₁ y) = m₁ := by
      funext y
      by_cases h : y = x
      · rw [if_pos h, h]
      · rw [if_neg h]
    rw [e]; exact F₁
end

theorem size_two (q : Nat) : Builtin.Range.rangeSize 0 ((2 * q : Nat) : Int) 2 = (q : Int) := by
  unfold Builtin.Range.rangeSize
  simp
  split <;> omega
theorem fits_long {i : Int} (h1 : -1000000 ≤ i) (h2 : i ≤ 1000000) : Builtin.Range.rangeFitsLong i = true := by
  unfold Builtin.Range.rangeFitsLong
  exact Bool.and_eq_true_iff.mpr ⟨decide_eq_true (by omega), decide_eq_true (by omega)⟩
theorem small_two (q : Nat) (h : q ≤ 1000) : Builtin.Range.small 0 ((2 * q : Nat) : Int) 2 = true := by
  unfold Builtin.Range.small
  rw [size_two, fits_long (by omega) (by omega), fits_long (by omega) (by omega), fits_long (by omega) (by omega), fits_long (by omega) (by omega), if_pos (by decide), fits_long (by omega) (by omega)]
  simp

/-- one level: two and two, a lone last one beside itself -/
def pairF (g : Array UInt8 → Array UInt8) : List (Array UInt8) → List (Array UInt8)
  | [] => []
  | [a] => [g (a ++ a)]
  | a :: b :: r => g (a ++ b) :: pairF g r
/-- the first i pairs of a row -/
def pairsTo (g : Array UInt8 → Array UInt8) (hs : List (Array UInt8)) (i : Nat) : List (Array UInt8) := (List.range i).map fun j => g (hs.getD (2 * j) #[] ++ hs.getD (2 * j + 1) #[])
theorem pairsTo_succ (g : Array UInt8 → Array UInt8) (hs : List (Array UInt8)) (i : Nat) : pairsTo g hs (i + 1) = pairsTo g hs i ++ [g (hs.getD (2 * i) #[] ++ hs.getD (2 * i + 1) #[])] := by
  unfold pairsTo
  rw [List.range_succ, List.map_append]
  rfl
theorem pairsTo_length (g : Array UInt8 → Array UInt8) (hs : List (Array UInt8)) (i : Nat) : (pairsTo g hs i).length = i := by simp [pairsTo]
theorem pairsTo_even (g : Array UInt8 → Array UInt8) : ∀ (q : Nat) (hs : List (Array UInt8)), hs.length = 2 * q → pairsTo g hs q = pairF g hs
  | 0, hs, h => by
    have : hs = [] := List.eq_nil_of_length_eq_zero (by omega)
    subst this; rfl
  | q + 1, [], h => by simp at h
  | q + 1, [_], h => by simp at h; omega
  | q + 1, a :: b :: r, h => by
    have ih := pairsTo_even g q r (by simp at h; omega)
    show (List.range (q + 1)).map _ = g (a ++ b) :: pairF g r
    rw [← ih, List.range_succ_eq_map, List.map_cons, List.map_map]
    rfl
theorem pairF_odd (g : Array UInt8 → Array UInt8) : ∀ (q : Nat) (hs : List (Array UInt8)) (x : Array UInt8), hs.length = 2 * q + 1 → x = hs.getD (2 * q) #[] → pairF g (hs ++ [x]) = pairF g hs
  | _, [], _, h, _ => by simp at h
  | 0, [a], x, _, e => by subst e; rfl
  | 0, _ :: _ :: _, _, h, _ => by simp at h
  | q + 1, [_], _, h, _ => by simp at h
  | q + 1, a :: b :: r, x, h, e => by
    have ih := pairF_odd g q r x (by simp at h; omega) (by rw [e]; rfl)
    show g (a ++ b) :: pairF g (r ++ [x]) = g (a ++ b) :: pairF g r
    rw [ih]
theorem pairF_length (g : Array UInt8 → Array UInt8) : ∀ (hs : List (Array UInt8)), (pairF g hs).length = (hs.length + 1) / 2
  | [] => by simp [pairF]
  | [_] => by simp [pairF]
  | a :: b :: r => by
    show (pairF g r).length + 1 = (r.length + 1 + 1 + 1) / 2
    rw [pairF_length g r]
    omega

theorem pairs_turn {g : Array UInt8 → Array UInt8} {hs : List (Array UInt8)} {i : Nat} {vs : List Value} {b c : Array UInt8} {t : Tok} (hb : b = hs.getD (0 + (i : Int) * 2).toNat #[]) (hc : c = hs.getD (0 + (i : Int) * 2 + 1).toNat #[])
    (h : BytesAre (vs ++ [Value.bytes (g (b ++ c)) t]) (pairsTo g hs i ++ [g (b ++ c)])) : BytesAre (vs ++ [Value.bytes (g (b ++ c)) t]) (pairsTo g hs (i + 1)) := by
  rw [pairsTo_succ]
  have e1 : (0 + (i : Int) * 2).toNat = 2 * i := by omega
  have e2 : (0 + (i : Int) * 2 + 1).toNat = 2 * i + 1 := by omega
  rw [e1] at hb
  rw [e2] at hc
  rw [← hb, ← hc]
  exact h

theorem news_drop2 {h₀ h : Heap} {L : Addr} {x y : Addr × Obj} {news : List (Addr × Obj)} (N : News h₀ L h (x :: y :: news)) : News h₀ L h (x :: news) := fun p hp => by
  rcases List.mem_cons.mp hp with rfl | hp
  · exact N _ (.head _)
  · exact N _ (.tail _ (.tail _ hp))

theorem b_while {prog : Program} {w : World} {A : Around} {E : Value → Shared → Prop} {Q : Flow → Shared → Prop} {s : Shared} {env : Env} {h₀ : Heap} {L : Addr} {test : Expr} {body : List Stmt} {pos : Pos} {m : Str → Option Value} {news : List (Addr × Obj)} {n₀ : Nat} (J : Nat → (Str → Option Value) → List (Addr × Obj) → Prop)
    (F : Fr h₀ L s.heap m) (N : News h₀ L s.heap news) (hJ : J n₀ m news)
    (turn : ∀ n m₁ nx h tk, J n m₁ nx → Fr h₀ L h m₁ → News h₀ L h nx →
      wpAny (model prog w) A (isTrue test env (eval test env)) (fun b s₂ => if b = true then wpAny (model prog w) A (execs body env) (InvPostG h₀ L (fun m' nx' => ∃ n', n' < n ∧ J n' m' nx') [] s Q) E s₂ else Q .next s₂) E { s with heap := h, toks := tk })
    (hE : PassesOwn (model prog w) A env E := by passes_own) :
    wpAny (model prog w) A (exec (.While test body [] pos) env) Q E s := by
  refine While_inv2 J F N hJ ?_ hE
  intro n m₁ nx h tk F₁ N₁ hj
  refine wpAny_mono (turn n m₁ nx h tk hj F₁ N₁) (fun b s₂ p => ?_) fun _ _ x => x
  cases b with
  | false => simpa using p
  | true =>
    simp only [if_true] at p ⊢
    refine wpAny_mono p (fun f s₃ q => ?_) fun _ _ x => x
    have fin : InvEndG h₀ L (fun m' nx' => ∃ n', n' < n ∧ J n' m' nx') [] s s₃ → WhileStep2 h₀ L s J Q n .next s₃ := by
      rintro ⟨h', tk', m', news', nx', e, F', N', hn, _, _, n', hlt, hj'⟩
      exact ⟨h', tk', m', nx', n', e, F', fun p hp => N' p (hn p hp), hlt, hj'⟩
    cases f with
    | ret v => exact q
    | brk => exact q
    | next => exact fin q
    | cont => exact fin q
theorem while_end {h₀ : Heap} {L : Addr} {J : (Str → Option Value) → List (Addr × Obj) → Prop} {m' : Str → Option Value} {nx : List (Addr × Obj)} {s : Shared} {h' : Heap} {tk : Nat} (F : Fr h₀ L h' m') (N : News h₀ L h' nx) (hj : J m' nx) : InvEndG h₀ L J [] s { s with heap := h', toks := tk } :=
  InvEndG.intro F N hj (fun _ h => nomatch h) (fun _ h => h) (fun _ h => nomatch h)

/-- the root of a row -/
def mkF (g : Array UInt8 → Array UInt8) : Nat → List (Array UInt8) → Array UInt8
  | 0, hs => hs.getD 0 #[]
  | n + 1, hs => if hs.length ≤ 1 then hs.getD 0 #[] else mkF g n (pairF g hs)
def mk (g : Array UInt8 → Array UInt8) (hs : List (Array UInt8)) : Array UInt8 := mkF g hs.length hs
theorem mkF_fuel (g : Array UInt8 → Array UInt8) : ∀ (n m : Nat) (hs : List (Array UInt8)), hs.length ≤ n → hs.length ≤ m → mkF g n hs = mkF g m hs
  | 0, 0, _, _, _ => rfl
  | 0, m + 1, hs, h, _ => by
    show hs.getD 0 #[] = if hs.length ≤ 1 then _ else _
    rw [if_pos (by omega)]
  | n + 1, 0, hs, _, h => by
    show (if hs.length ≤ 1 then _ else _) = hs.getD 0 #[]
    rw [if_pos (by omega)]
  | n + 1, m + 1, hs, h1, h2 => by
    show (if hs.length ≤ 1 then hs.getD 0 #[] else mkF g n (pairF g hs)) = if hs.length ≤ 1 then hs.getD 0 #[] else mkF g m (pairF g hs)
    by_cases h : hs.length ≤ 1
    · rw [if_pos h, if_pos h]
    · rw [if_neg h, if_neg h]
      have := pairF_length g hs
      exact mkF_fuel g n m _ (by omega) (by omega)
theorem mk_one (g : Array UInt8 → Array UInt8) (hs : List (Array UInt8)) (h : hs.length ≤ 1) : mk g hs = hs.getD 0 #[] := by
  unfold mk
  cases hn : hs.length with
  | zero => rfl
  | succ n =>
    show (if hs.length ≤ 1 then _ else _) = _
    rw [if_pos h]
theorem mk_more (g : Array UInt8 → Array UInt8) (hs : List (Array UInt8)) (h : 1 < hs.length) : mk g hs = mk g (pairF g hs) := by
  unfold mk
  have hl := pairF_length g hs
  cases hn : hs.length with
  | zero => omega
  | succ n =>
    show (if hs.length ≤ 1 then _ else mkF g n (pairF g hs)) = _
    rw [if_neg (by omega)]
    exact mkF_fuel g _ _ _ (by omega) (Nat.le_refl _)
/-- how long the texts of a row may be -/
def Room (j : Nat) (hs : List (Array UInt8)) : Prop := hs.length ≤ 2 ^ j ∧ j ≤ 9 ∧ ∀ x ∈ hs, x.size + 32 ≤ 2 ^ (19 - j)
theorem room_small {j : Nat} {hs : List (Array UInt8)} (h : Room j hs) : Small hs ∧ hs.length ≤ 999 := by
  obtain ⟨h1, h2, h3⟩ := h
  have e1 : (2 : Nat) ^ j ≤ 2 ^ 9 := Nat.pow_le_pow_right (by decide) h2
  have e2 : (2 : Nat) ^ (19 - j) ≤ 2 ^ 19 := Nat.pow_le_pow_right (by decide) (by omega)
  have e3 : (2 : Nat) ^ 9 = 512 := by decide
  have e4 : (2 : Nat) ^ 19 = 524288 := by decide
  refine ⟨⟨by omega, fun x hx => ?_⟩, by omega⟩
  have := h3 x hx
  omega
theorem pairF_mem (g : Array UInt8 → Array UInt8) {M : Nat} (hg : ∀ x, (g x).size ≤ x.size + 32) : ∀ (hs : List (Array UInt8)), (∀ x ∈ hs, x.size + 32 ≤ M) → ∀ x ∈ pairF g hs, x.size + 32 ≤ 2 * M
  | [], _, x, hx => nomatch hx
  | [a], h, x, hx => by
    have e : x = g (a ++ a) := List.mem_singleton.mp hx
    have h1 := h a (.head _)
    have h2 := hg (a ++ a)
    rw [Array.size_append] at h2
    rw [e]; omega
  | a :: b :: r, h, x, hx => by
    rcases List.mem_cons.mp hx with e | hx
    · have h1 := h a (.head _)
      have h3 := h b (.tail _ (.head _))
      have h2 := hg (a ++ b)
      rw [Array.size_append] at h2
      rw [e]; omega
    · exact pairF_mem g hg r (fun y hy => h y (.tail _ (.tail _ hy))) x hx
theorem room_pair {g : Array UInt8 → Array UInt8} (hg : ∀ x, (g x).size ≤ x.size + 32) {j : Nat} {hs : List (Array UInt8)} (h : Room j hs) (h1 : 1 < hs.length) : Room (j - 1) (pairF g hs) := by
  obtain ⟨a, b, c⟩ := h
  cases j with
  | zero => simp at a; omega
  | succ j =>
    refine ⟨?_, by omega, fun x hx => ?_⟩
    · rw [pairF_length]
      rw [Nat.pow_succ] at a
      show _ ≤ 2 ^ j
      omega
    · have := pairF_mem g hg hs c x hx
      have e : 19 - (j + 1 - 1) = (19 - (j + 1)) + 1 := by omega
      rw [e, Nat.pow_succ]
      omega

theorem b_whileM {prog : Program} {w : World} {A : Around} {E : Value → Shared → Prop} {Q : Flow → Shared → Prop} {s : Shared} {env : Env} {h₀ : Heap} {L : Addr} {test : Expr} {body : List Stmt} {pos : Pos} {m : Str → Option Value} {news : List (Addr × Obj)} {n₀ : Nat} (J : (Str → Option Value) → Nat → (Str → Option Value) → List (Addr × Obj) → Prop)
    (F : Fr h₀ L s.heap m) (N : News h₀ L s.heap news) (hJ : J m n₀ m news)
    (turn : ∀ n m₁ nx h tk, J m n m₁ nx → Fr h₀ L h m₁ → News h₀ L h nx →
      wpAny (model prog w) A (isTrue test env (eval test env)) (fun b s₂ => if b = true then wpAny (model prog w) A (execs body env) (InvPostG h₀ L (fun m' nx' => ∃ n', n' < n ∧ J m n' m' nx') [] s Q) E s₂ else Q .next s₂) E { s with heap := h, toks := tk })
    (hE : PassesOwn (model prog w) A env E := by passes_own) :
    wpAny (model prog w) A (exec (.While test body [] pos) env) Q E s := b_while (J m) F N hJ turn hE
theorem fr_one {h₀ h : Heap} {L : Addr} {m m₀ : Str → Option Value} {x : Str} {v : Value} (F : Fr h₀ L h m) (h1 : m x = some v) (h2 : ∀ y, y ≠ x → m y = m₀ y) : Fr h₀ L h (fun y => if y = x then some v else m₀ y) := by
  have e : m = fun y => if y = x then some v else m₀ y := by
    funext y
    by_cases h : y = x
    · rw [if_pos h, h, h1]
    · rw [if_neg h, h2 y h]
  rw [← e]; exact F
def MerkleJ (g : Array UInt8 → Array UInt8) (bs : List (Array UInt8)) (news : List (Addr × Obj)) (x : Str) (m₀ : Str → Option Value) (_ : List (Addr × Obj)) (n : Nat) (m : Str → Option Value) (nx : List (Addr × Obj)) : Prop :=
  ∃ l ws k bs' j, (l, listOf (List.toArray ws) k) ∈ nx ∧ (∀ p ∈ news, p ∈ nx) ∧ BytesAre ws bs' ∧ Room j bs' ∧ bs'.length = n ∧ 0 < n ∧ mk g bs' = mk g bs ∧ m x = some (.ref l) ∧ ∀ y, y ≠ x → m y = m₀ y

/-- a goal that the walk leaves to me -/
def Hold (P : Prop) : Prop := P
/-- says by which word a while is walked: of the frame and the ledger ahead of it, the turns left, the frame and the ledger now -/
structure WhileWord (J : (Str → Option Value) → List (Addr × Obj) → Nat → (Str → Option Value) → List (Addr × Obj) → Prop) : Prop where
theorem b_whileW {prog : Program} {w : World} {A : Around} {E : Value → Shared → Prop} {Q : Flow → Shared → Prop} {s : Shared} {env : Env} {h₀ : Heap} {L : Addr} {test : Expr} {body : List Stmt} {pos : Pos} {m : Str → Option Value} {news : List (Addr × Obj)} {J : (Str → Option Value) → List (Addr × Obj) → Nat → (Str → Option Value) → List (Addr × Obj) → Prop}
    (_W : WhileWord J) (F : Fr h₀ L s.heap m) (N : News h₀ L s.heap news) (hJ : Hold (∃ n₀, J m news n₀ m news))
    (turn : Hold (∀ n m₁ nx h tk, J m news n m₁ nx → Fr h₀ L h m₁ → News h₀ L h nx →
      wpAny (model prog w) A (isTrue test env (eval test env)) (fun b s₂ => if b = true then wpAny (model prog w) A (execs body env) (InvPostG h₀ L (fun m' nx' => ∃ n', n' < n ∧ J m news n' m' nx') [] s Q) E s₂ else Q .next s₂) E { s with heap := h, toks := tk }))
    (hE : PassesOwn (model prog w) A env E) :
    wpAny (model prog w) A (exec (.While test body [] pos) env) Q E s := by
  obtain ⟨n₀, h⟩ := hJ
  exact b_while (J m news) F N h turn hE

section
variable {prog : Program} {w : World} {A : Around} {E : Value → Shared → Prop} {s : Shared} {env : Env} {h₀ : Heap} {target : Expr} {body : List Stmt} {Q : Flow → Shared → Prop}
theorem unr_mono {L : Addr} {its : List (Addr × Obj)} {r r' : (Str → Option Value) → List (Addr × Obj) → Prop} {s₁ : Shared} {f : Flow} {s₂ : Shared} (h : ∀ m n, r m n → r' m n) (x : UnrPostW h₀ L s₁ its r Q f s₂) : UnrPostW h₀ L s₁ its r' Q f s₂ := by
  have up : UnrEndW h₀ L s₁ its r s₂ → UnrEndW h₀ L s₁ its r' s₂ := by
    rintro ⟨h', tk, m', n', e, F, N, ho, hr⟩
    exact ⟨h', tk, m', n', e, F, N, ho, h _ _ hr⟩
  cases f with
  | ret v => exact x
  | brk => exact x
  | next => exact up x
  | cont => exact up x
theorem all_mono {ws : List (Addr × String)} {k k' : List (Addr × Obj) → Prop} (h : ∀ its, k its → k' its) (x : AllObj ws k) : AllObj ws k' := by
  induction ws generalizing k k' with
  | nil => exact h _ x
  | cons w r ih => exact fun o ho => ih (fun its hk => h _ hk) (x o ho)
theorem items_all {ws : List (Addr × String)} {keep : List (Addr × Obj)} (vs : List Value) (J : Nat → (Str → Option Value) → List (Addr × Obj) → Prop)
    (turn : ∀ j v T t m news h tk, vs[j]? = some v → J j m news → SubL keep news → IsTup h T #[.int ((j : Nat) : Int) t, v] → Fr h₀ env.locals h m → AllObj ws (fun its => News h₀ env.locals h (its ++ news) →
      wpAny (model prog w) A (assign target env (.ref T)) (fun _ s₂ => wpAny (model prog w) A (execs body env) (UnrPostW h₀ env.locals { s with heap := h, toks := tk } its (fun m' n' => SubL keep n' ∧ J (j + 1) m' n') Q) E s₂) E { s with heap := h, toks := tk }))
    (done : ∀ m news h tk, J vs.length m news → Fr h₀ env.locals h m → News h₀ env.locals h news → Q .next { s with heap := h, toks := tk }) :
    ∀ (n i : Nat), i + n = vs.length → ∀ m news, J i m news → SubL keep news → ItemsRest prog w A E h₀ env target body Q s ws keep (enumItems i (vs.drop i)) m news := by
  intro n
  induction n with
  | zero =>
    intro i hi m news hj hk
    have e : vs.drop i = [] := List.drop_eq_nil_of_le (by omega)
    rw [e]
    have ei : i = vs.length := by omega
    subst ei
    exact fun h tk F N => done m news h tk hj F N
  | succ n ih =>
    intro i hi m news hj hk
    have hlt : i < vs.length := by omega
    rw [List.drop_eq_getElem_cons hlt]
    refine ItemsRest.pair fun T t h tk hT F => ?_
    refine all_mono (fun its hx N => ?_) (turn i vs[i] T t m news h tk (List.getElem?_eq_getElem hlt) hj hk hT F)
    exact wpAny_mono (hx N) (fun _ s₂ h₂ => wpAny_mono h₂ (fun f s₃ p => unr_mono (fun m' n' r => ⟨r.1, ih (i + 1) (by omega) m' n' r.2 r.1⟩) p) fun _ _ e => e) fun _ _ e => e
/-- says by which word a for over enumerate is walked -/
structure EnumWord (J : (Str → Option Value) → List (Addr × Obj) → List Value → Nat → (Str → Option Value) → List (Addr × Obj) → Prop) : Prop where
theorem b_enumW {elts : List Expr} {k : Nat} {pos : Pos} {l : Addr} {lo : Obj} {vs : List Value} {n : Nat} {m₀ : Str → Option Value} {news : List (Addr × Obj)} {J : (Str → Option Value) → List (Addr × Obj) → List Value → Nat → (Str → Option Value) → List (Addr × Obj) → Prop}
    (_W : EnumWord J) (hh : A.handled = none) (F : Fr h₀ env.locals s.heap m₀) (N : News h₀ env.locals s.heap news) (hm : (l, lo) ∈ news) (hc : lo.cls = .type "list") (hd : lo.data = .seq vs.toArray n) (hJ : Hold (J m₀ news vs 0 m₀ news))
    (turn : Hold (∀ I : Addr, (∀ p ∈ news, p.1 < I) → ∀ j v T t m nx h tk oE oI, vs[j]? = some v → J m₀ news vs j m nx → (l, lo) ∈ nx → IsTup h T #[.int ((j : Nat) : Int) t, v] → Fr h₀ env.locals h m → oE.cls = .type "enumerate" → oI.cls = .type "list_iterator" → News h₀ env.locals h ((I + 1, oE) :: (I, oI) :: nx) →
      wpAny (model prog w) A (assign (.Tuple elts k pos) env (.ref T)) (fun _ s₂ => wpAny (model prog w) A (execs body env) (UnrPostW h₀ env.locals { s with heap := h, toks := tk } [(I + 1, oE), (I, oI)] (fun m' n' => (l, lo) ∈ n' ∧ J m₀ news vs (j + 1) m' n') Q) E s₂) E { s with heap := h, toks := tk }))
    (done : Hold (∀ m nx h tk, J m₀ news vs vs.length m nx → Fr h₀ env.locals h m → News h₀ env.locals h nx → Q .next { s with heap := h, toks := tk })) :
    wpAny (model prog w) A (call (.type "enumerate") [.ref l]) (fun xv s₁ => wpAny (model prog w) A (pyIter xv) (fun it s₂ => TurnsAt prog w A h₀ env (.Tuple elts k pos) body Q E it s₂) E s₁) E s := by
  refine ktu_enum hh F N hm hc hd rfl fun I hI => ?_
  have q := items_all (prog := prog) (w := w) (A := A) (E := E) (s := s) (env := env) (h₀ := h₀) (target := .Tuple elts k pos) (body := body) (Q := Q) (ws := [(I + 1, "enumerate"), (I, "list_iterator")]) (keep := [(l, lo)]) vs (J m₀ news vs) ?_ done vs.length 0 (by omega) m₀ news hJ ⟨hm, trivial⟩
  · exact q
  · intro j v T t m nx h tk hv hj hk hT F1 oE hE oI hI' N1
    refine wpAny_mono (turn I hI j v T t m nx h tk oE oI hv hj hk.1 hT F1 hE hI' N1) (fun _ s₂ h₂ => wpAny_mono h₂ (fun f s₃ p => unr_mono (fun m' n' r => ⟨⟨r.1, trivial⟩, r.2⟩) p) fun _ _ e => e) fun _ _ e => e
end
theorem fr_two {h₀ h : Heap} {L : Addr} {m m₀ : Str → Option Value} {x y : Str} {v u : Value} (F : Fr h₀ L h m) (h1 : m x = some v) (h2 : m y = some u) (h3 : ∀ z, z ≠ x → z ≠ y → m z = m₀ z) : Fr h₀ L h (fun z => if z = x then some v else if z = y then some u else m₀ z) := by
  have e : m = fun z => if z = x then some v else if z = y then some u else m₀ z := by
    funext z
    by_cases h : z = x
    · rw [if_pos h, h, h1]
    · rw [if_neg h]
      by_cases k : z = y
      · rw [if_pos k, k, h2]
      · rw [if_neg k, h3 z h k]
  rw [← e]; exact F

theorem ne_cell {h₀ h : Heap} {L a c : Addr} {news : List (Addr × Obj)} {its : Array Value} {n : Nat} {o : Obj} {v : Option Value} (N : News h₀ L h news) (ha : (a, listOf its n) ∈ news) (hc : (c, o) ∈ news) (hd : o.data = .cell v) : @Ne Nat a c := by
  intro e
  have h1 := (N _ ha).1
  have h2 := (N _ hc).1
  rw [show a = c from e, h2] at h1
  have h3 : o = listOf its n := Option.some.inj h1
  rw [h3] at hd
  cases hd

theorem fr_told {h₀ h : Heap} {L : Addr} {m m₀ : Str → Option Value} {x a b c : Str} {v : Value} (F : Fr h₀ L h m) (h1 : m x = some v) (h3 : ∀ z, z ≠ x → z ≠ a → z ≠ b → z ≠ c → m z = m₀ z) : Fr h₀ L h (fun z => if z = x then some v else if z = a then m a else if z = b then m b else if z = c then m c else m₀ z) := by
  have e : m = fun z => if z = x then some v else if z = a then m a else if z = b then m b else if z = c then m c else m₀ z := by
    funext z
    by_cases h : z = x
    · rw [if_pos h, h, h1]
    · rw [if_neg h]
      by_cases k : z = a
      · rw [if_pos k, k]
      · rw [if_neg k]
        by_cases k2 : z = b
        · rw [if_pos k2, k2]
        · rw [if_neg k2]
          by_cases k3 : z = c
          · rw [if_pos k3, k3]
          · rw [if_neg k3, h3 z h k k2 k3]
  rw [← e]; exact F
end
section
theorem fresh_1 : True := by
  w_top off
  exact True.intro
local macro_rules | `(tactic| walk_at "B len") => `(tactic| first | assumption | (refine Nat.le_trans (And.left (by assumption)) ?_; decide) | omega | ((have hS9 := And.left (by with_reducible assumption : Small _)); (try simp only [List.length_append, List.length_cons, List.length_nil]); omega))
local macro_rules | `(tactic| walk_at "B arith") => `(tactic| first | assumption | omega | ((try simp only [List.length_append, List.length_drop, List.length_take, List.size_toArray, List.length_cons, List.length_nil, Array.size_append]); omega) | (law_clear; (try law_fm); omega))
local macro_rules | `(tactic| k_mem) => `(tactic| assumption)
local macro_rules | `(tactic| k_all) => `(tactic| assumption)
local macro_rules | `(tactic| walk_at "call builtin:len") => `(tactic| (k_here; (with_reducible show wpAny _ _ (call (Value.builtin "len") [Value.ref _]) _ _ _); k_dflt (refine' b_len ?N ?a ?b ?z ?_; (case N => k_asm); (case a => k_mem); (case b => with_reducible assumption); (case z => walk_at "B len"))))
local macro_rules | `(tactic| walk_at "B item") => `(tactic| (k_here; (with_reducible show wpAny _ _ (subscriptTail _ _ (Value.ref _) (Value.int _ _)) _ _ _); k_dflt (refine' b_itemS ?N ?a ?b ?c ?d ?e ?_ ?f; (case N => k_asm); (case a => k_mem); (case b => with_reducible assumption); (case c => with_reducible assumption); (case d => walk_at "B arith"); (case e => walk_at "B arith"); (case f => with_unfolding_all rfl)); intro bI tI eI sI))
local macro_rules | `(tactic| walk_at "B itemNeg") => `(tactic| (k_here; (with_reducible show wpAny _ _ (subscriptTail _ _ (Value.ref _) (Value.int _ _)) _ _ _); k_dflt (refine' b_itemNegS ?N ?a ?b ?c ?d ?e ?_ ?f; (case N => k_asm); (case a => k_mem); (case b => with_reducible assumption); (case c => with_reducible assumption); (case d => walk_at "B arith"); (case e => walk_at "B arith"); (case f => with_unfolding_all rfl)); intro bI tI eI sI))
local macro_rules | `(tactic| walk_at "subscriptTail Name Name ref int") => `(tactic| walk_at "B item")
local macro_rules | `(tactic| walk_at "subscriptTail Name BinOp ref int") => `(tactic| walk_at "B item")
local macro_rules | `(tactic| walk_at "subscriptTail Name Constant ref int") => `(tactic| walk_at "B item")
local macro_rules | `(tactic| walk_at "subscriptTail Name UnaryOp ref int") => `(tactic| walk_at "B itemNeg")
local macro_rules | `(tactic| walk_at "binaryOp Add bytes bytes") => `(tactic| (k_here; (with_reducible show wpAny _ _ (binaryOp Operator.Add (Value.bytes _ _) (Value.bytes _ _)) _ _ _); (refine KBy.add_bytes ?z ?_); (case z => walk_at "B arith"); intro tI kI))
local macro_rules | `(tactic| walk_at "call type:list") => `(tactic| (k_here; (with_reducible show wpAny _ _ (call (Value.type _) [Value.ref _]) _ _ _); k_dflt (refine' b_list ?N ?a ?b ?c ?z ?_; (case N => k_asm); (case a => k_asm); (case b => k_mem); (case c => with_reducible assumption); (case z => walk_at "B len")); intro D' c' h' F' N' l1; (try k_lt l1); (try k_sweep)))
local macro_rules | `(tactic| walk_at "call builtin:list.append") => `(tactic| (k_here; (with_reducible show wpAny _ _ (call (Value.builtin _) [Value.ref _, Value.bytes _ _]) _ _ _); k_dflt (refine' b_append ?k1 ?k2 ?k3 ?b ?z ?_; (case k1 => k_asm); (case k2 => k_asm); (case k3 => k_upd); (case b => with_reducible assumption); (case z => walk_at "B len"); k_whole); intro h' F' N' bA; (try k_sweep)))
local macro_rules | `(tactic| walk_at "compareOp Eq bytes bytes") => `(tactic| (refine b_eq ?_))
local macro_rules | `(tactic| walk_at "compareOp NotEq bytes bytes") => `(tactic| (refine b_ne ?_))
local macro_rules | `(tactic| walk_at "B enter") => `(tactic| (refine' code_def ?k1 ?k2 ?k3 ?k4 ?k5 ?kA ?kF ?kK ?k6 ?k7 ?k8 ?k9 ?kB ?_ ?c2 ?c3 ?c4 ?c5; (case kA => exact rfl); (case kF => exact rfl); (case kK => assumption); (case k1 => k_asm); (case k2 => k_asm); (case k3 => k_asm); (case k4 => k_asm); (case k5 => k_asm); (case k6 => k_is); (case k7 => k_is); (case k8 => ktr_room); (case k9 => first | exact BindsTo.of_eq rfl | exact binds_K (by k_in) rfl (by k_is) rfl rfl rfl); (case c5 => decide); (case kB => exact locs rfl); (case c2 => exact rfl); (case c3 => exact rfl); (case c4 => exact rfl); k_whole; intro g' L' h' FG' F' N' B' X' T'; (try dsimp only); (try k_fold)))
local macro_rules | `(tactic| walk_at "exec While Compare cons nil") => `(tactic| (k_here; (rename WhileWord _ => wW); k_dflt (refine' b_whileW wW ?F ?N ?hJ ?turn ?hE; (case F => k_asm); (case N => k_asm); (case hE => first | passes_own | with_unfolding_all passes_own)); clear wW))
local macro_rules | `(tactic| k_room) => `(tactic| ktr_room)
local macro_rules | `(tactic| k_units) => `(tactic| ktr_units)
local macro_rules | `(tactic| walk_at "B picks") => `(tactic| first | exact bs_all (by with_reducible assumption) | exact bs_upto (by with_reducible assumption) (by walk_at "B arith") | exact bs_from (by with_reducible assumption) (by walk_at "B arith") | exact bs_fromNeg (by with_reducible assumption) (by walk_at "B arith"))
local macro_rules | `(tactic| walk_at "subscriptTail Name Slice ref ref") => `(tactic| (k_here; (with_reducible show wpAny _ _ (subscriptTail _ (PySem.Expr.Slice _ _ none _) (Value.ref _) (Value.ref _)) _ _ _); k_dflt (refine' b_slice ?F ?N ?a ?p ?q ?b ?z ?c ?_ ?s ?t; (case F => k_asm); (case N => k_asm); (case a => k_mem); (case p => kmk_part); (case q => kmk_part); (case b => with_reducible assumption); (case z => walk_at "B len"); (case c => walk_at "B picks"); (case s => with_unfolding_all rfl); (case t => intro _; with_unfolding_all rfl)); intro D' ws' h' F' N' l1 bA; (try k_lt l1); (try k_sweep)))
local macro_rules | `(tactic| walk_at "binaryOp Add ref ref") => `(tactic| (k_here; (with_reducible show wpAny _ _ (binaryOp _ (Value.ref _) (Value.ref _)) _ _ _); k_dflt (refine' b_add ?F ?N ?a ?b ?c ?d ?z ?_; (case F => k_asm); (case N => k_asm); (case a => k_mem); (case b => k_mem); (case c => with_reducible assumption); (case d => with_reducible assumption); (case z => walk_at "B arith")); intro D' us' h' F' N' l1 bA; (try k_lt l1); (try k_sweep)))
abbrev TellsM {D : Type} (w : World) (mean : ExcName → Option Value) (mg mb : Str → Option Value) (f : Addr) (c : ToldN D) (d : D) : Prop :=
  TellsN PySem.Challenge.rw_fw0034_01.row.prog w (hd.heap_39 w.params) hd.view_39 (looseW hd.view_39 [Str.ofString "merkle"]) mean mg mb f c d

def shownB (b : Array UInt8) : Array UInt8 := #[40] ++ b ++ #[41]

/-- a function of one bytes that hands back one bytes -/
def hashT (g : Array UInt8 → Array UInt8) (k : Nat) : ToldN (Array UInt8) where
  Rel := fun _ vs b => ∃ t, vs = [Value.bytes b t]
  Ok := fun b => b.size ≤ 3000000
  size := fun _ => k
  Tl := fun tl => tl = []
  Out := fun _ r b => ∃ t, r = .bytes (g b) t

theorem shown_tells {w : World} {mean : ExcName → Option Value} {mg mb : Str → Option Value} (b : Array UInt8) : TellsM w mean mg mb 85 (hashT shownB 1) b := by
  unfold TellsM
  k_fill
  unfold TellsN
  intro dp un gd cn cs a ccd cl outer A₀ base h₀ L m news s vs Q E B F X N T hk hR hok hd hu hret
  obtain ⟨t, rfl⟩ := hR
  have hok' : b.size ≤ 3000000 := hok
  refine wpAny_call ?_
  k_dflt ktr_enter
  k_steps
  all_goals exact hret _ [] _ _ (by k_asm) (by simp only [List.append_nil]; k_asm) (fun _ _ _ h9 => nomatch h9) rfl ⟨_, rfl⟩
theorem shownB_size (b : Array UInt8) : (shownB b).size ≤ b.size + 32 := by
  unfold shownB
  simp only [Array.size_append, List.size_toArray, List.length_cons, List.length_nil]
  omega

theorem shown_use {w : World} {mean : ExcName → Option Value} {mg mb : Str → Option Value} {dp un : Nat} {gd : Option (List Code)} {cn : Str} {cs : Scope} {a : Addr} {ccd : Value} {cl : List (Str × Addr)} {outer : List Env} {A₀ : Around} {base h₀ : Heap} {L : Addr} {m : Str → Option Value} {news : List (Addr × Obj)} {s : Shared} {Q E : Value → Shared → Prop} {b : Array UInt8} {t : Tok}
    (B : Below A₀ base outer h₀) (F : Fr h₀ L s.heap m) (X : (hd.heap_39 w.params).In h₀) (N : News h₀ L s.heap news) (T : Top hd.view_39 (looseW hd.view_39 [Str.ofString "merkle"]) mean mg mb h₀) (hk : cs.kind = .function)
    (hz : b.size ≤ 3000000) (hdp : dp + 1 < recursionLimit) (hun : un + 8 < cLine)
    (hret : ∀ t h' tk', Fr h₀ L h' m → News h₀ L h' news → Q (.bytes (shownB b) t) { s with heap := h', toks := tk' }) :
    wpAny (model PySem.Challenge.rw_fw0034_01.row.prog w) (ktrTop dp un gd cn cs L a ccd cl outer) (call (.ref 85) [.bytes b t]) Q E s := by
  refine tellsN_use (c := hashT shownB 1) (d := b) B F X N T hk ⟨t, rfl⟩ (shown_tells b) hz hdp hun ?_
  rintro r tl h' tk' F' N' _ rfl ⟨t', rfl⟩
  rw [List.append_nil] at N'
  exact hret t' h' tk' F' N'
end
section
theorem fresh_2 : True := by
  w_top off
  exact True.intro
local macro_rules | `(tactic| walk_at "B len") => `(tactic| first | assumption | (refine Nat.le_trans (And.left (by assumption)) ?_; decide) | omega | ((have hS9 := And.left (by with_reducible assumption : Small _)); (try simp only [List.length_append, List.length_cons, List.length_nil]); omega))
local macro_rules | `(tactic| walk_at "B arith") => `(tactic| first | assumption | omega | ((try simp only [List.length_append, List.length_drop, List.length_take, List.size_toArray, List.length_cons, List.length_nil, Array.size_append]); omega) | (law_clear; (try law_fm); omega))
local macro_rules | `(tactic| k_mem) => `(tactic| assumption)
local macro_rules | `(tactic| k_all) => `(tactic| assumption)
local macro_rules | `(tactic| walk_at "call builtin:len") => `(tactic| (k_here; (with_reducible show wpAny _ _ (call (Value.builtin "len") [Value.ref _]) _ _ _); k_dflt (refine' b_len ?N ?a ?b ?z ?_; (case N => k_asm); (case a => k_mem); (case b => with_reducible assumption); (case z => walk_at "B len"))))
local macro_rules | `(tactic| walk_at "B item") => `(tactic| (k_here; (with_reducible show wpAny _ _ (subscriptTail _ _ (Value.ref _) (Value.int _ _)) _ _ _); k_dflt (refine' b_itemS ?N ?a ?b ?c ?d ?e ?_ ?f; (case N => k_asm); (case a => k_mem); (case b => with_reducible assumption); (case c => with_reducible assumption); (case d => walk_at "B arith"); (case e => walk_at "B arith"); (case f => with_unfolding_all rfl)); intro bI tI eI sI))
local macro_rules | `(tactic| walk_at "B itemNeg") => `(tactic| (k_here; (with_reducible show wpAny _ _ (subscriptTail _ _ (Value.ref _) (Value.int _ _)) _ _ _); k_dflt (refine' b_itemNegS ?N ?a ?b ?c ?d ?e ?_ ?f; (case N => k_asm); (case a => k_mem); (case b => with_reducible assumption); (case c => with_reducible assumption); (case d => walk_at "B arith"); (case e => walk_at "B arith"); (case f => with_unfolding_all rfl)); intro bI tI eI sI))
local macro_rules | `(tactic| walk_at "subscriptTail Name Name ref int") => `(tactic| walk_at "B item")
local macro_rules | `(tactic| walk_at "subscriptTail Name BinOp ref int") => `(tactic| walk_at "B item")
local macro_rules | `(tactic| walk_at "subscriptTail Name Constant ref int") => `(tactic| walk_at "B item")
local macro_rules | `(tactic| walk_at "subscriptTail Name UnaryOp ref int") => `(tactic| walk_at "B itemNeg")
local macro_rules | `(tactic| walk_at "binaryOp Add bytes bytes") => `(tactic| (k_here; (with_reducible show wpAny _ _ (binaryOp Operator.Add (Value.bytes _ _) (Value.bytes _ _)) _ _ _); (refine KBy.add_bytes ?z ?_); (case z => walk_at "B arith"); intro tI kI))
local macro_rules | `(tactic| walk_at "call type:list") => `(tactic| (k_here; (with_reducible show wpAny _ _ (call (Value.type _) [Value.ref _]) _ _ _); k_dflt (refine' b_list ?N ?a ?b ?c ?z ?_; (case N => k_asm); (case a => k_asm); (case b => k_mem); (case c => with_reducible assumption); (case z => walk_at "B len")); intro D' c' h' F' N' l1; (try k_lt l1); (try k_sweep)))
local macro_rules | `(tactic| walk_at "call builtin:list.append") => `(tactic| (k_here; (with_reducible show wpAny _ _ (call (Value.builtin _) [Value.ref _, Value.bytes _ _]) _ _ _); k_dflt (refine' b_append ?k1 ?k2 ?k3 ?b ?z ?_; (case k1 => k_asm); (case k2 => k_asm); (case k3 => k_upd); (case b => with_reducible assumption); (case z => walk_at "B len"); k_whole); intro h' F' N' bA; (try k_sweep)))
local macro_rules | `(tactic| walk_at "compareOp Eq bytes bytes") => `(tactic| (refine b_eq ?_))
local macro_rules | `(tactic| walk_at "compareOp NotEq bytes bytes") => `(tactic| (refine b_ne ?_))
local macro_rules | `(tactic| walk_at "B enter") => `(tactic| (refine' code_def ?k1 ?k2 ?k3 ?k4 ?k5 ?kA ?kF ?kK ?k6 ?k7 ?k8 ?k9 ?kB ?_ ?c2 ?c3 ?c4 ?c5; (case kA => exact rfl); (case kF => exact rfl); (case kK => assumption); (case k1 => k_asm); (case k2 => k_asm); (case k3 => k_asm); (case k4 => k_asm); (case k5 => k_asm); (case k6 => k_is); (case k7 => k_is); (case k8 => ktr_room); (case k9 => first | exact BindsTo.of_eq rfl | exact binds_K (by k_in) rfl (by k_is) rfl rfl rfl); (case c5 => decide); (case kB => exact locs rfl); (case c2 => exact rfl); (case c3 => exact rfl); (case c4 => exact rfl); k_whole; intro g' L' h' FG' F' N' B' X' T'; (try dsimp only); (try k_fold)))
local macro_rules | `(tactic| walk_at "exec While Compare cons nil") => `(tactic| (k_here; (rename WhileWord _ => wW); k_dflt (refine' b_whileW wW ?F ?N ?hJ ?turn ?hE; (case F => k_asm); (case N => k_asm); (case hE => first | passes_own | with_unfolding_all passes_own)); clear wW))
local macro_rules | `(tactic| k_room) => `(tactic| ktr_room)
local macro_rules | `(tactic| k_units) => `(tactic| ktr_units)
local macro_rules | `(tactic| walk_at "B picks") => `(tactic| first | exact bs_all (by with_reducible assumption) | exact bs_upto (by with_reducible assumption) (by walk_at "B arith") | exact bs_from (by with_reducible assumption) (by walk_at "B arith") | exact bs_fromNeg (by with_reducible assumption) (by walk_at "B arith"))
local macro_rules | `(tactic| walk_at "subscriptTail Name Slice ref ref") => `(tactic| (k_here; (with_reducible show wpAny _ _ (subscriptTail _ (PySem.Expr.Slice _ _ none _) (Value.ref _) (Value.ref _)) _ _ _); k_dflt (refine' b_slice ?F ?N ?a ?p ?q ?b ?z ?c ?_ ?s ?t; (case F => k_asm); (case N => k_asm); (case a => k_mem); (case p => kmk_part); (case q => kmk_part); (case b => with_reducible assumption); (case z => walk_at "B len"); (case c => walk_at "B picks"); (case s => with_unfolding_all rfl); (case t => intro _; with_unfolding_all rfl)); intro D' ws' h' F' N' l1 bA; (try k_lt l1); (try k_sweep)))
local macro_rules | `(tactic| walk_at "binaryOp Add ref ref") => `(tactic| (k_here; (with_reducible show wpAny _ _ (binaryOp _ (Value.ref _) (Value.ref _)) _ _ _); k_dflt (refine' b_add ?F ?N ?a ?b ?c ?d ?z ?_; (case F => k_asm); (case N => k_asm); (case a => k_mem); (case b => k_mem); (case c => with_reducible assumption); (case d => with_reducible assumption); (case z => walk_at "B arith")); intro D' us' h' F' N' l1 bA; (try k_lt l1); (try k_sweep)))
local macro_rules | `(tactic| walk_at "call ref") => `(tactic| (k_here; (with_reducible show wpAny _ _ (call (Value.ref 85) [Value.bytes _ _]) _ _ _); k_dflt (refine' shown_use ?B ?F ?X ?N ?T ?k ?z ?d ?u ?_; (case B => k_asm); (case F => k_asm); (case X => k_asm); (case N => k_asm); (case T => k_asm); (case k => first | exact rfl | assumption); (case z => walk_at "B arith"); (case d => ktr_room); (case u => ktr_units)); intro tH hH tkH F' N'; (try dsimp only)))
theorem pair_85 {w : World} {mean : ExcName → Option Value} {mg mb : Str → Option Value}
    {dp un : Nat} {gd : Option (List Code)} {cn : Str} {cs : Scope} {a : Addr} {ccd : Value} {cl : List (Str × Addr)} {outer : List Env} {A₀ : Around} {base h₀ : Heap} {L : Addr} {m : Str → Option Value} {news : List (Addr × Obj)} {s : Shared} {Q E : Value → Shared → Prop}
    {l : Addr} {ws : List Value} {n : Nat} {bs : List (Array UInt8)}
    (B : Below A₀ base outer h₀) (F : Fr h₀ L s.heap m) (X : (hd.heap_39 w.params).In h₀) (N : News h₀ L s.heap news) (T : Top hd.view_39 (looseW hd.view_39 [Str.ofString "merkle"]) mean mg mb h₀) (hk : cs.kind = .function)
    (hl : (l, listOf ws.toArray n) ∈ news) (hb : BytesAre ws bs) (hS : Small bs) (h9 : bs.length ≤ 999)
    (hdp : dp + 6 < recursionLimit) (hun : un + 48 < cLine)
    (hret : ∀ a us k h' tk', Fr h₀ L h' m → News h₀ L h' ((a, listOf (List.toArray us) k) :: news) → (∀ p ∈ news, p.1 < a) → BytesAre us (pairF shownB bs) → Q (.ref a) { s with heap := h', toks := tk' }) :
    wpAny (model PySem.Challenge.rw_fw0034_01.row.prog w) (ktrTop dp un gd cn cs L a ccd cl outer) (call (.ref 78) [.ref l, .ref 85]) Q E s := by
  revert X
  k_fill
  intro X
  refine wpAny_call ?_
  k_dflt ktr_enter
  k_steps
  · (rename Array UInt8 => bI)
    (rename BytesAre (_ ++ _) _ => bA)
    (rename Int.fmod _ _ = _ => hodd)
    (rename IsRange _ _ _ _ _ _ _ _ => hr)
    (rename _ = List.getD _ _ _ => eI)
    (rename Array.size _ ≤ _ => sI)
    (rename _ ∧ AllLt _ _ => l2)
    generalize hq0 : bs.length / 2 = q
    have hlen : bs.length = 2 * q + 1 := by
      rw [Int.fmod_eq_emod_of_nonneg _ (by decide)] at hodd
      omega
    have eT : (-1 + (bs.length : Int)).toNat = 2 * q := by omega
    rw [eT] at eI
    have hp := pairF_odd shownB q bs bI hlen eI
    have hq : (bs ++ [bI]).length = 2 * (q + 1) := by rw [List.length_append, hlen]; rfl
    have hS2 : Small (bs ++ [bI]) := ⟨by rw [List.length_append]; exact Nat.succ_le_succ h9, fun x hx => by
      rcases List.mem_append.mp hx with hx | hx
      · exact hS.2 x hx
      · rw [List.mem_singleton.mp hx]; exact sI⟩
    generalize q + 1 = q' at hq
    clear eI hlen hodd eT hq0 q
    obtain ⟨hs, hhs⟩ : ∃ hs, hs = bs ++ [bI] := ⟨_, rfl⟩
    rw [← hhs] at hr bA hp hq hS2
    rw [hq] at hr
    have hq9 : q' ≤ 1000 := by have := hS2.1; omega
    refine b_range (n := q') (fun i ws => BytesAre ws (pairsTo shownB hs i)) rfl hr (small_two q' hq9) (size_two q') (by k_asm) (by k_asm) rfl ?_ .nil ?_ ?_
    · intro p hp
      rcases List.mem_cons.mp hp with rfl | hp
      · exact Nat.ne_of_lt l2.1
      · exact Nat.ne_of_lt (ktn_ltOf l2.2 p hp)
    · intro i vs k t h tk own hi hR ho hne hsub F1 N1
      have hm := hsub _ (List.Mem.head _)
      have hz9 : (pairsTo shownB hs i).length ≤ 1000000 := by rw [pairsTo_length]; omega
      k_steps
      exact grow_end (by k_asm) (by k_asm) ho (fun _ h => h) (pairs_turn (by assumption) (by assumption) (by assumption)) (fun y hy => if_neg hy)
    · intro vs k u h tk hR F1 N1
      k_steps
      rw [pairsTo_even _ _ _ hq, hp] at hR
      exact hret _ vs k _ _ (by k_asm) (news_drop2 (by k_asm)) (fun p hp => ktn_ltOf l2.2 p hp) hR
  · (rename Int.fmod _ _ ≠ _ => hodd)
    (rename IsRange _ _ _ _ _ _ _ _ => hr)
    have l2 := allLt_of (by assumption : ∀ p ∈ news, p.1 < _)
    generalize hq0 : bs.length / 2 = q
    have hq : bs.length = 2 * q := by
      rw [Int.fmod_eq_emod_of_nonneg _ (by decide)] at hodd
      omega
    clear hodd hq0
    rw [hq] at hr
    have hq9 : q ≤ 1000 := by have := hS.1; omega
    refine b_range (n := q) (fun i ws => BytesAre ws (pairsTo shownB bs i)) rfl hr (small_two q hq9) (size_two q) (by k_asm) (by k_asm) rfl ?_ .nil ?_ ?_
    · intro p hp
      exact Nat.ne_of_lt (ktn_ltOf l2 p hp)
    · intro i vs k t h tk own hi hR ho hne hsub F1 N1
      have hm := hsub _ hl
      have hz9 : (pairsTo shownB bs i).length ≤ 1000000 := by rw [pairsTo_length]; omega
      k_steps
      exact grow_end (by k_asm) (by k_asm) ho (fun _ h => h) (pairs_turn (by assumption) (by assumption) (by assumption)) (fun y hy => if_neg hy)
    · intro vs k u h tk hR F1 N1
      k_steps
      rw [pairsTo_even _ _ _ hq] at hR
      exact hret _ vs k _ _ (by k_asm) (by k_asm) (fun p hp => ktn_ltOf l2 p hp) hR
end
section
theorem fresh_3 : True := by
  w_top off
  exact True.intro
local macro_rules | `(tactic| walk_at "B pad 0") => `(tactic| skip)
local macro_rules | `(tactic| walk_at "B len") => `(tactic| first | assumption | (refine Nat.le_trans (And.left (by assumption)) ?_; decide) | omega | ((have hS9 := And.left (by with_reducible assumption : Small _)); (try simp only [List.length_append, List.length_cons, List.length_nil]); omega))
local macro_rules | `(tactic| walk_at "B arith") => `(tactic| first | assumption | omega | ((try simp only [List.length_append, List.length_drop, List.length_take, List.size_toArray, List.length_cons, List.length_nil, Array.size_append]); omega) | (law_clear; (try law_fm); omega))
local macro_rules | `(tactic| k_mem) => `(tactic| assumption)
local macro_rules | `(tactic| k_all) => `(tactic| assumption)
local macro_rules | `(tactic| walk_at "call builtin:len") => `(tactic| (k_here; (with_reducible show wpAny _ _ (call (Value.builtin "len") [Value.ref _]) _ _ _); k_dflt (refine' b_len ?N ?a ?b ?z ?_; (case N => k_asm); (case a => k_mem); (case b => with_reducible assumption); (case z => walk_at "B len"))))
local macro_rules | `(tactic| walk_at "B item") => `(tactic| (k_here; (with_reducible show wpAny _ _ (subscriptTail _ _ (Value.ref _) (Value.int _ _)) _ _ _); k_dflt (refine' b_itemS ?N ?a ?b ?c ?d ?e ?_ ?f; (case N => k_asm); (case a => k_mem); (case b => with_reducible assumption); (case c => with_reducible assumption); (case d => walk_at "B arith"); (case e => walk_at "B arith"); (case f => with_unfolding_all rfl)); intro bI tI eI sI))
local macro_rules | `(tactic| walk_at "B itemNeg") => `(tactic| (k_here; (with_reducible show wpAny _ _ (subscriptTail _ _ (Value.ref _) (Value.int _ _)) _ _ _); k_dflt (refine' b_itemNegS ?N ?a ?b ?c ?d ?e ?_ ?f; (case N => k_asm); (case a => k_mem); (case b => with_reducible assumption); (case c => with_reducible assumption); (case d => walk_at "B arith"); (case e => walk_at "B arith"); (case f => with_unfolding_all rfl)); intro bI tI eI sI))
local macro_rules | `(tactic| walk_at "subscriptTail Name Name ref int") => `(tactic| walk_at "B item")
local macro_rules | `(tactic| walk_at "subscriptTail Name BinOp ref int") => `(tactic| walk_at "B item")
local macro_rules | `(tactic| walk_at "subscriptTail Name Constant ref int") => `(tactic| walk_at "B item")
local macro_rules | `(tactic| walk_at "subscriptTail Name UnaryOp ref int") => `(tactic| walk_at "B itemNeg")
local macro_rules | `(tactic| walk_at "binaryOp Add bytes bytes") => `(tactic| (k_here; (with_reducible show wpAny _ _ (binaryOp Operator.Add (Value.bytes _ _) (Value.bytes _ _)) _ _ _); (refine KBy.add_bytes ?z ?_); (case z => walk_at "B arith"); intro tI kI))
local macro_rules | `(tactic| walk_at "call type:list") => `(tactic| (k_here; (with_reducible show wpAny _ _ (call (Value.type _) [Value.ref _]) _ _ _); k_dflt (refine' b_list ?N ?a ?b ?c ?z ?_; (case N => k_asm); (case a => k_asm); (case b => k_mem); (case c => with_reducible assumption); (case z => walk_at "B len")); intro D' c' h' F' N' l1; (try k_lt l1); (try k_sweep)))
local macro_rules | `(tactic| walk_at "call builtin:list.append") => `(tactic| (k_here; (with_reducible show wpAny _ _ (call (Value.builtin _) [Value.ref _, Value.bytes _ _]) _ _ _); k_dflt (refine' b_append ?k1 ?k2 ?k3 ?b ?z ?_; (case k1 => k_asm); (case k2 => k_asm); (case k3 => k_upd); (case b => with_reducible assumption); (case z => walk_at "B len"); k_whole); intro h' F' N' bA; (try k_sweep)))
local macro_rules | `(tactic| walk_at "compareOp Eq bytes bytes") => `(tactic| (refine b_eq ?_))
local macro_rules | `(tactic| walk_at "compareOp NotEq bytes bytes") => `(tactic| (refine b_ne ?_))
local macro_rules | `(tactic| walk_at "B enter") => `(tactic| (refine' code_def ?k1 ?k2 ?k3 ?k4 ?k5 ?kA ?kF ?kK ?k6 ?k7 ?k8 ?k9 ?kB ?_ ?c2 ?c3 ?c4 ?c5; (case kA => exact rfl); (case kF => exact rfl); (case kK => assumption); (case k1 => k_asm); (case k2 => k_asm); (case k3 => k_asm); (case k4 => k_asm); (case k5 => k_asm); (case k6 => k_is); (case k7 => k_is); (case k8 => ktr_room); (case k9 => first | exact BindsTo.of_eq rfl | exact binds_K (by k_in) rfl (by k_is) rfl rfl rfl); (case c5 => decide); (case kB => exact locs rfl); (case c2 => exact rfl); (case c3 => exact rfl); (case c4 => exact rfl); k_whole; intro g' L' h' FG' F' N' B' X' T'; (try dsimp only); (try k_fold)))
local macro_rules | `(tactic| walk_at "exec While Compare cons nil") => `(tactic| (k_here; (rename WhileWord _ => wW); k_dflt (refine' b_whileW wW ?F ?N ?hJ ?turn ?hE; (case F => k_asm); (case N => k_asm); (case hE => first | passes_own | with_unfolding_all passes_own)); clear wW))
local macro_rules | `(tactic| k_room) => `(tactic| ktr_room)
local macro_rules | `(tactic| k_units) => `(tactic| ktr_units)
local macro_rules | `(tactic| walk_at "B picks") => `(tactic| first | exact bs_all (by with_reducible assumption) | exact bs_upto (by with_reducible assumption) (by walk_at "B arith") | exact bs_from (by with_reducible assumption) (by walk_at "B arith") | exact bs_fromNeg (by with_reducible assumption) (by walk_at "B arith"))
local macro_rules | `(tactic| walk_at "subscriptTail Name Slice ref ref") => `(tactic| (k_here; (with_reducible show wpAny _ _ (subscriptTail _ (PySem.Expr.Slice _ _ none _) (Value.ref _) (Value.ref _)) _ _ _); k_dflt (refine' b_slice ?F ?N ?a ?p ?q ?b ?z ?c ?_ ?s ?t; (case F => k_asm); (case N => k_asm); (case a => k_mem); (case p => kmk_part); (case q => kmk_part); (case b => with_reducible assumption); (case z => walk_at "B len"); (case c => walk_at "B picks"); (case s => with_unfolding_all rfl); (case t => intro _; with_unfolding_all rfl)); intro D' ws' h' F' N' l1 bA; (try k_lt l1); (try k_sweep)))
local macro_rules | `(tactic| walk_at "binaryOp Add ref ref") => `(tactic| (k_here; (with_reducible show wpAny _ _ (binaryOp _ (Value.ref _) (Value.ref _)) _ _ _); k_dflt (refine' b_add ?F ?N ?a ?b ?c ?d ?z ?_; (case F => k_asm); (case N => k_asm); (case a => k_mem); (case b => k_mem); (case c => with_reducible assumption); (case d => with_reducible assumption); (case z => walk_at "B arith")); intro D' us' h' F' N' l1 bA; (try k_lt l1); (try k_sweep)))
local macro_rules | `(tactic| walk_at "call ref") => `(tactic| (k_here; (with_reducible show wpAny _ _ (call (Value.ref 78) [Value.ref _, Value.ref 85]) _ _ _); k_dflt (refine' pair_85 ?B ?F ?X ?N ?T ?k ?a ?b ?z ?z9 ?d ?u ?_; (case B => k_asm); (case F => k_asm); (case X => k_asm); (case N => k_asm); (case T => k_asm); (case k => first | exact rfl | assumption); (case a => k_mem); (case b => with_reducible assumption); (case z => with_reducible assumption); (case z9 => walk_at "B len"); (case d => ktr_room); (case u => ktr_units)); intro aP usP kP hP tkP F' N' lP bP; (try dsimp only)))
theorem merkle_85 {w : World} {mean : ExcName → Option Value} {mg mb : Str → Option Value}
    {dp un : Nat} {gd : Option (List Code)} {cn : Str} {cs : Scope} {a : Addr} {ccd : Value} {cl : List (Str × Addr)} {outer : List Env} {A₀ : Around} {base h₀ : Heap} {L : Addr} {m : Str → Option Value} {news : List (Addr × Obj)} {s : Shared} {Q E : Value → Shared → Prop}
    {l : Addr} {ws : List Value} {n : Nat} {bs : List (Array UInt8)} {j : Nat}
    (B : Below A₀ base outer h₀) (F : Fr h₀ L s.heap m) (X : (hd.heap_39 w.params).In h₀) (N : News h₀ L s.heap news) (T : Top hd.view_39 (looseW hd.view_39 [Str.ofString "merkle"]) mean mg mb h₀) (hk : cs.kind = .function)
    (hl : (l, listOf ws.toArray n) ∈ news) (hb : BytesAre ws bs) (hR : Room j bs) (h0 : 0 < bs.length)
    (hdp : dp + 8 < recursionLimit) (hun : un + 64 < cLine)
    (hret : ∀ t h' tk', Fr h₀ L h' m → News h₀ L h' news → Q (.bytes (mk shownB bs) t) { s with heap := h', toks := tk' }) :
    wpAny (model PySem.Challenge.rw_fw0034_01.row.prog w) (ktrTop dp un gd cn cs L a ccd cl outer) (call (.ref 71) [.ref l, .ref 85]) Q E s := by
  revert X
  k_fill
  intro X
  refine wpAny_call ?_
  k_dflt (walk_at "B enter")
  have hW : WhileWord (MerkleJ shownB bs news (Str.ofString "hashes")) := .mk
  k_steps
  · exact ⟨bs.length, l, ws, n, bs, j, hl, fun _ h => h, hb, hR, rfl, h0, rfl, rfl, fun _ _ => rfl⟩
  · (rename WhileWord _ => wW)
    clear wW
    intro nn m₁ nx h tk hJ F1 N1
    obtain ⟨l1, ws1, k1, bs1, j1, hm, hsub, hb1, hR1, hlen, hpos, hmk, e1, e2⟩ := hJ
    have F2 := fr_one F1 e1 e2
    clear F1 e1 e2 m₁
    have hS := (room_small hR1).1
    have h9 := (room_small hR1).2
    k_steps
    · (rename BytesAre _ (pairF _ _) => bP)
      (rename (1 : Int) < _ => hgt)
      have hgt' : 1 < bs1.length := by omega
      refine while_end (by k_asm) (by k_asm) ⟨_, ?_, _, _, _, pairF shownB bs1, j1 - 1, List.Mem.head _, fun p hp => .tail _ (hsub p hp), bP, room_pair shownB_size hR1 hgt', rfl, ?_, ?_, rfl, fun y hy => ?_⟩
      · rw [pairF_length]; omega
      · rw [pairF_length]; omega
      · rw [← mk_more _ _ hgt', hmk]
      · exact (if_neg hy).trans (if_neg hy)
    · (rename _ = List.getD _ _ _ => eI)
      (rename ¬ (1 : Int) < _ => hgt)
      rw [eI, show bs1.getD (Int.toNat 0) #[] = mk shownB bs by rw [← hmk, mk_one _ _ (by omega)]; rfl]
      exact hret _ _ _ (by k_asm) (fun p hp => (by assumption : News h₀ L _ nx) p (hsub p hp))
end
section
theorem fresh_4 : True := by
  w_top off
  exact True.intro
local macro_rules | `(tactic| walk_at "B pad 0") => `(tactic| skip)
local macro_rules | `(tactic| walk_at "B pad 1") => `(tactic| skip)
local macro_rules | `(tactic| walk_at "B pad 2") => `(tactic| skip)
local macro_rules | `(tactic| walk_at "B len") => `(tactic| first | assumption | (refine Nat.le_trans (And.left (by assumption)) ?_; decide) | omega | ((have hS9 := And.left (by with_reducible assumption : Small _)); (try simp only [List.length_append, List.length_cons, List.length_nil]); omega))
local macro_rules | `(tactic| walk_at "B arith") => `(tactic| first | assumption | omega | ((try simp only [List.length_append, List.length_drop, List.length_take, List.size_toArray, List.length_cons, List.length_nil, Array.size_append]); omega) | (law_clear; (try law_fm); omega))
local macro_rules | `(tactic| k_mem) => `(tactic| assumption)
local macro_rules | `(tactic| k_all) => `(tactic| assumption)
local macro_rules | `(tactic| walk_at "call builtin:len") => `(tactic| (k_here; (with_reducible show wpAny _ _ (call (Value.builtin "len") [Value.ref _]) _ _ _); k_dflt (refine' b_len ?N ?a ?b ?z ?_; (case N => k_asm); (case a => k_mem); (case b => with_reducible assumption); (case z => walk_at "B len"))))
local macro_rules | `(tactic| walk_at "B item") => `(tactic| (k_here; (with_reducible show wpAny _ _ (subscriptTail _ _ (Value.ref _) (Value.int _ _)) _ _ _); k_dflt (refine' b_itemS ?N ?a ?b ?c ?d ?e ?_ ?f; (case N => k_asm); (case a => k_mem); (case b => with_reducible assumption); (case c => with_reducible assumption); (case d => walk_at "B arith"); (case e => walk_at "B arith"); (case f => with_unfolding_all rfl)); intro bI tI eI sI))
local macro_rules | `(tactic| walk_at "B itemNeg") => `(tactic| (k_here; (with_reducible show wpAny _ _ (subscriptTail _ _ (Value.ref _) (Value.int _ _)) _ _ _); k_dflt (refine' b_itemNegS ?N ?a ?b ?c ?d ?e ?_ ?f; (case N => k_asm); (case a => k_mem); (case b => with_reducible assumption); (case c => with_reducible assumption); (case d => walk_at "B arith"); (case e => walk_at "B arith"); (case f => with_unfolding_all rfl)); intro bI tI eI sI))
local macro_rules | `(tactic| walk_at "subscriptTail Name Name ref int") => `(tactic| walk_at "B item")
local macro_rules | `(tactic| walk_at "subscriptTail Name BinOp ref int") => `(tactic| walk_at "B item")
local macro_rules | `(tactic| walk_at "subscriptTail Name Constant ref int") => `(tactic| walk_at "B item")
local macro_rules | `(tactic| walk_at "subscriptTail Name UnaryOp ref int") => `(tactic| walk_at "B itemNeg")
local macro_rules | `(tactic| walk_at "binaryOp Add bytes bytes") => `(tactic| (k_here; (with_reducible show wpAny _ _ (binaryOp Operator.Add (Value.bytes _ _) (Value.bytes _ _)) _ _ _); (refine KBy.add_bytes ?z ?_); (case z => walk_at "B arith"); intro tI kI))
local macro_rules | `(tactic| walk_at "call type:list") => `(tactic| (k_here; (with_reducible show wpAny _ _ (call (Value.type _) [Value.ref _]) _ _ _); k_dflt (refine' b_list ?N ?a ?b ?c ?z ?_; (case N => k_asm); (case a => k_asm); (case b => k_mem); (case c => with_reducible assumption); (case z => walk_at "B len")); intro D' c' h' F' N' l1; (try k_lt l1); (try k_sweep)))
local macro_rules | `(tactic| walk_at "call builtin:list.append") => `(tactic| (k_here; (with_reducible show wpAny _ _ (call (Value.builtin _) [Value.ref _, Value.bytes _ _]) _ _ _); k_dflt (refine' b_append ?k1 ?k2 ?k3 ?b ?z ?_; (case k1 => k_asm); (case k2 => k_asm); (case k3 => k_upd); (case b => with_reducible assumption); (case z => walk_at "B len"); k_whole); intro h' F' N' bA; (try k_sweep)))
local macro_rules | `(tactic| walk_at "compareOp Eq bytes bytes") => `(tactic| (refine b_eq ?_))
local macro_rules | `(tactic| walk_at "compareOp NotEq bytes bytes") => `(tactic| (refine b_ne ?_))
local macro_rules | `(tactic| walk_at "B enter") => `(tactic| (refine' code_def ?k1 ?k2 ?k3 ?k4 ?k5 ?kA ?kF ?kK ?k6 ?k7 ?k8 ?k9 ?kB ?_ ?c2 ?c3 ?c4 ?c5; (case kA => exact rfl); (case kF => exact rfl); (case kK => assumption); (case k1 => k_asm); (case k2 => k_asm); (case k3 => k_asm); (case k4 => k_asm); (case k5 => k_asm); (case k6 => k_is); (case k7 => k_is); (case k8 => ktr_room); (case k9 => first | exact BindsTo.of_eq rfl | exact binds_K (by k_in) rfl (by k_is) rfl rfl rfl); (case c5 => decide); (case kB => exact locs rfl); (case c2 => exact rfl); (case c3 => exact rfl); (case c4 => exact rfl); k_whole; intro g' L' h' FG' F' N' B' X' T'; (try dsimp only); (try k_fold)))
local macro_rules | `(tactic| walk_at "exec While Compare cons nil") => `(tactic| (k_here; (rename WhileWord _ => wW); k_dflt (refine' b_whileW wW ?F ?N ?hJ ?turn ?hE; (case F => k_asm); (case N => k_asm); (case hE => first | passes_own | with_unfolding_all passes_own)); clear wW))
local macro_rules | `(tactic| k_room) => `(tactic| ktr_room)
local macro_rules | `(tactic| k_units) => `(tactic| ktr_units)
local macro_rules | `(tactic| walk_at "B picks") => `(tactic| first | exact bs_all (by with_reducible assumption) | exact bs_upto (by with_reducible assumption) (by walk_at "B arith") | exact bs_from (by with_reducible assumption) (by walk_at "B arith") | exact bs_fromNeg (by with_reducible assumption) (by walk_at "B arith"))
local macro_rules | `(tactic| walk_at "subscriptTail Name Slice ref ref") => `(tactic| (k_here; (with_reducible show wpAny _ _ (subscriptTail _ (PySem.Expr.Slice _ _ none _) (Value.ref _) (Value.ref _)) _ _ _); k_dflt (refine' b_slice ?F ?N ?a ?p ?q ?b ?z ?c ?_ ?s ?t; (case F => k_asm); (case N => k_asm); (case a => k_mem); (case p => kmk_part); (case q => kmk_part); (case b => with_reducible assumption); (case z => walk_at "B len"); (case c => walk_at "B picks"); (case s => with_unfolding_all rfl); (case t => intro _; with_unfolding_all rfl)); intro D' ws' h' F' N' l1 bA; (try k_lt l1); (try k_sweep)))
local macro_rules | `(tactic| walk_at "binaryOp Add ref ref") => `(tactic| (k_here; (with_reducible show wpAny _ _ (binaryOp _ (Value.ref _) (Value.ref _)) _ _ _); k_dflt (refine' b_add ?F ?N ?a ?b ?c ?d ?z ?_; (case F => k_asm); (case N => k_asm); (case a => k_mem); (case b => k_mem); (case c => with_reducible assumption); (case d => with_reducible assumption); (case z => walk_at "B arith")); intro D' us' h' F' N' l1 bA; (try k_lt l1); (try k_sweep)))
def PP : Int := 115792089237316195423570985008687907853269984665640564039457584007908834671663
def mixG (a k : Int) : Int := Int.fmod (a * 1000003 + k + 1) 115792089237316195423570985008687907853269984665640564039457584007908834671663
def mixZ (b : Array UInt8) : Int := Int.fmod ((KBw.bInts b).foldl mixG 1 * 101) 115792089237316195423570985008687907853269984665640564039457584007908834671663
theorem mixZ_lo (b : Array UInt8) : 0 ≤ mixZ b := fmod_lo _ (by decide)
theorem mixZ_hi (b : Array UInt8) : mixZ b < 115792089237316195423570985008687907853269984665640564039457584007908834671663 := fmod_hi _ (by decide)
theorem mixed_tells {w : World} {mean : ExcName → Option Value} {mg mb : Str → Option Value}
    {dp un : Nat} {gd : Option (List Code)} {cn : Str} {cs : Scope} {a : Addr} {ccd : Value} {cl : List (Str × Addr)} {outer : List Env} {A₀ : Around} {base h₀ : Heap} {L : Addr} {m : Str → Option Value} {news : List (Addr × Obj)} {s : Shared} {Q E : Value → Shared → Prop}
    {b : Array UInt8} {t u : Tok}
    (B : Below A₀ base outer h₀) (F : Fr h₀ L s.heap m) (X : (hd.heap_39 w.params).In h₀) (N : News h₀ L s.heap news) (T : Top hd.view_39 (looseW hd.view_39 [Str.ofString "merkle"]) mean mg mb h₀) (hk : cs.kind = .function)
    (hz : b.size ≤ 3000000)
    (hdp : dp + 1 < recursionLimit) (hun : un + 8 < cLine)
    (hret : ∀ t h' tk', Fr h₀ L h' m → News h₀ L h' news → Q (.int (mixZ b) t) { s with heap := h', toks := tk' }) :
    wpAny (model PySem.Challenge.rw_fw0034_01.row.prog w) (ktrTop dp un gd cn cs L a ccd cl outer) (call (.ref 49) [.bytes b t, .int 1 u]) Q E s := by
  revert X
  k_fill
  intro X
  refine wpAny_call ?_
  k_dflt (walk_at "B enter")
  k_steps
  refine KBw.iterBytes_acc1 (y := Str.ofString "number") mixG rfl rfl (by k_asm) (by k_asm) rfl ?_ ?_
  · intro k t a ta h tk own hk hlo hhi ho F1 N1
    k_steps
    exact ⟨_, _, _, _, news, rfl, by k_asm, by k_asm, fun p hp => List.mem_append.mpr (.inl hp), fun p hp => List.mem_append.mpr (.inr hp), rfl, rfl, ⟨_, rfl⟩, fun z h1 h2 => (if_neg h2).trans ((if_neg h1).trans (if_neg h2))⟩
  · intro u t h tk F1 N1
    k_steps
    exact hret _ _ _ (by k_asm) (by k_asm)

/-- the thirty-two octets of a number, the greatest first -/
def toB (x : Int) : Array UInt8 := (KTBy.low x 32).reverse.toArray
theorem toB_size (x : Int) : (toB x).size = 32 := by
  unfold toB
  rw [List.size_toArray, List.length_reverse, KTBy.low_length]
theorem b_toBytes {prog : Program} {w : World} {A : Around} {E : Value → Shared → Prop} {s : Shared} {x : Int} {t u v : Tok} {Q : Value → Shared → Prop} (h0 : 0 ≤ x) (h1 : x < 115792089237316195423570985008687907853269984665640564039457584007908834671663)
    (h : ∀ t' k', Q (.bytes (toB x) t') { s with toks := k' }) :
    wpAny (model prog w) A (call (.builtin "int.to_bytes") [.int x t, .int 32 u, .str (PySem.Str.ofString "big") v]) Q E s := by
  have hb : Builtin.Int.intBits x ≤ 8 * 32 := KTBy.bits_le (k := 32) (B := 115792089237316195423570985008687907853269984665640564039457584007913129639936) (by decide) h0 (by omega)
  refine wpAny_call_entry KTBy.slot (typeIs_int s x t) KTBy.entry ?_ (KTBy.args _ _ _)
  show wpAny _ _ (Builtin.Int.intOfSelf (.int x t) >>= fun y => _) _ _ s
  refine wpAny_bind (wpAny_of_eq (a := x) rfl ?_)
  show wpAny _ _ (Builtin.Int.intBindNamed "to_bytes" ["length", "byteorder", "signed"] 0 2 [.int 32 u, .str (PySem.Str.ofString "big") v] [] >>= fun l => _) _ _ s
  refine wpAny_bind (wpAny_of_eq (a := [some (.int 32 u), some (.str (PySem.Str.ofString "big") v), none]) (by kernel_rfl) ?_)
  show wpAny _ _ (Builtin.Int.intIndex "int.to_bytes" (.int 32 u) >>= fun n => _) _ _ s
  refine wpAny_bind (wpAny_of_eq (a := (32 : Int)) rfl ?_)
  refine KTBy.if_not (by decide) ?_
  refine wpAny_bind (wpAny_of_eq (a := PySem.Str.ofString "big") (by kernel_rfl) ?_)
  refine wpAny_bind (wpAny_of_eq (a := false) rfl ?_)
  refine wpAny_bind (wpAny_of_eq (a := false) (by kernel_rfl) ?_)
  refine wpAny_ite_false (by decide) ?_
  refine wpAny_ite_false (by decide) ?_
  refine wpAny_ite_false (by decide) ?_
  refine KTBy.if_not (by show (decide (x < 0) && !false) = false; rw [decide_eq_false (show ¬ x < 0 by omega)]; rfl) ?_
  refine KTBy.if_not (by show (_ && decide ((Builtin.Int.intBits x : Int) > 8 * (32 : Int))) = false; rw [decide_eq_false (show ¬ ((Builtin.Int.intBits x : Int) > 8 * (32 : Int)) by omega), Bool.and_false]) ?_
  exact wpAny_bind (wpAny_mkBytes (wpAny_pure ⟨_, rfl, h _ _⟩) (by show (List.reverse (KTBy.low x (Int.toNat (32 : Int)))).length ≤ sizeLine; rw [List.length_reverse, KTBy.low_length, sizeLine_eq]; decide))
end
section
theorem fresh_5 : True := by
  w_top off
  exact True.intro
local macro_rules | `(tactic| walk_at "B pad 0") => `(tactic| skip)
local macro_rules | `(tactic| walk_at "B len") => `(tactic| first | assumption | (refine Nat.le_trans (And.left (by assumption)) ?_; decide) | omega | ((have hS9 := And.left (by with_reducible assumption : Small _)); (try simp only [List.length_append, List.length_cons, List.length_nil]); omega))
local macro_rules | `(tactic| walk_at "B arith") => `(tactic| first | assumption | omega | ((try simp only [List.length_append, List.length_drop, List.length_take, List.size_toArray, List.length_cons, List.length_nil, Array.size_append]); omega) | (law_clear; (try law_fm); omega))
local macro_rules | `(tactic| k_mem) => `(tactic| assumption)
local macro_rules | `(tactic| k_all) => `(tactic| assumption)
local macro_rules | `(tactic| walk_at "call builtin:len") => `(tactic| (k_here; (with_reducible show wpAny _ _ (call (Value.builtin "len") [Value.ref _]) _ _ _); k_dflt (refine' b_len ?N ?a ?b ?z ?_; (case N => k_asm); (case a => k_mem); (case b => with_reducible assumption); (case z => walk_at "B len"))))
local macro_rules | `(tactic| walk_at "B item") => `(tactic| (k_here; (with_reducible show wpAny _ _ (subscriptTail _ _ (Value.ref _) (Value.int _ _)) _ _ _); k_dflt (refine' b_itemS ?N ?a ?b ?c ?d ?e ?_ ?f; (case N => k_asm); (case a => k_mem); (case b => with_reducible assumption); (case c => with_reducible assumption); (case d => walk_at "B arith"); (case e => walk_at "B arith"); (case f => with_unfolding_all rfl)); intro bI tI eI sI))
local macro_rules | `(tactic| walk_at "B itemNeg") => `(tactic| (k_here; (with_reducible show wpAny _ _ (subscriptTail _ _ (Value.ref _) (Value.int _ _)) _ _ _); k_dflt (refine' b_itemNegS ?N ?a ?b ?c ?d ?e ?_ ?f; (case N => k_asm); (case a => k_mem); (case b => with_reducible assumption); (case c => with_reducible assumption); (case d => walk_at "B arith"); (case e => walk_at "B arith"); (case f => with_unfolding_all rfl)); intro bI tI eI sI))
local macro_rules | `(tactic| walk_at "subscriptTail Name Name ref int") => `(tactic| walk_at "B item")
local macro_rules | `(tactic| walk_at "subscriptTail Name BinOp ref int") => `(tactic| walk_at "B item")
local macro_rules | `(tactic| walk_at "subscriptTail Name Constant ref int") => `(tactic| walk_at "B item")
local macro_rules | `(tactic| walk_at "subscriptTail Name UnaryOp ref int") => `(tactic| walk_at "B itemNeg")
local macro_rules | `(tactic| walk_at "binaryOp Add bytes bytes") => `(tactic| (k_here; (with_reducible show wpAny _ _ (binaryOp Operator.Add (Value.bytes _ _) (Value.bytes _ _)) _ _ _); (refine KBy.add_bytes ?z ?_); (case z => walk_at "B arith"); intro tI kI))
local macro_rules | `(tactic| walk_at "call type:list") => `(tactic| (k_here; (with_reducible show wpAny _ _ (call (Value.type _) [Value.ref _]) _ _ _); k_dflt (refine' b_list ?N ?a ?b ?c ?z ?_; (case N => k_asm); (case a => k_asm); (case b => k_mem); (case c => with_reducible assumption); (case z => walk_at "B len")); intro D' c' h' F' N' l1; (try k_lt l1); (try k_sweep)))
local macro_rules | `(tactic| walk_at "call builtin:list.append") => `(tactic| (k_here; (with_reducible show wpAny _ _ (call (Value.builtin _) [Value.ref _, Value.bytes _ _]) _ _ _); k_dflt (refine' b_append ?k1 ?k2 ?k3 ?b ?z ?_; (case k1 => k_asm); (case k2 => k_asm); (case k3 => k_upd); (case b => with_reducible assumption); (case z => walk_at "B len"); k_whole); intro h' F' N' bA; (try k_sweep)))
local macro_rules | `(tactic| walk_at "compareOp Eq bytes bytes") => `(tactic| (refine b_eq ?_))
local macro_rules | `(tactic| walk_at "compareOp NotEq bytes bytes") => `(tactic| (refine b_ne ?_))
local macro_rules | `(tactic| walk_at "B enter") => `(tactic| (refine' code_def ?k1 ?k2 ?k3 ?k4 ?k5 ?kA ?kF ?kK ?k6 ?k7 ?k8 ?k9 ?kB ?_ ?c2 ?c3 ?c4 ?c5; (case kA => exact rfl); (case kF => exact rfl); (case kK => assumption); (case k1 => k_asm); (case k2 => k_asm); (case k3 => k_asm); (case k4 => k_asm); (case k5 => k_asm); (case k6 => k_is); (case k7 => k_is); (case k8 => ktr_room); (case k9 => first | exact BindsTo.of_eq rfl | exact binds_K (by k_in) rfl (by k_is) rfl rfl rfl); (case c5 => decide); (case kB => exact locs rfl); (case c2 => exact rfl); (case c3 => exact rfl); (case c4 => exact rfl); k_whole; intro g' L' h' FG' F' N' B' X' T'; (try dsimp only); (try k_fold)))
local macro_rules | `(tactic| walk_at "exec While Compare cons nil") => `(tactic| (k_here; (rename WhileWord _ => wW); k_dflt (refine' b_whileW wW ?F ?N ?hJ ?turn ?hE; (case F => k_asm); (case N => k_asm); (case hE => first | passes_own | with_unfolding_all passes_own)); clear wW))
local macro_rules | `(tactic| k_room) => `(tactic| ktr_room)
local macro_rules | `(tactic| k_units) => `(tactic| ktr_units)
local macro_rules | `(tactic| walk_at "B picks") => `(tactic| first | exact bs_all (by with_reducible assumption) | exact bs_upto (by with_reducible assumption) (by walk_at "B arith") | exact bs_from (by with_reducible assumption) (by walk_at "B arith") | exact bs_fromNeg (by with_reducible assumption) (by walk_at "B arith"))
local macro_rules | `(tactic| walk_at "subscriptTail Name Slice ref ref") => `(tactic| (k_here; (with_reducible show wpAny _ _ (subscriptTail _ (PySem.Expr.Slice _ _ none _) (Value.ref _) (Value.ref _)) _ _ _); k_dflt (refine' b_slice ?F ?N ?a ?p ?q ?b ?z ?c ?_ ?s ?t; (case F => k_asm); (case N => k_asm); (case a => k_mem); (case p => kmk_part); (case q => kmk_part); (case b => with_reducible assumption); (case z => walk_at "B len"); (case c => walk_at "B picks"); (case s => with_unfolding_all rfl); (case t => intro _; with_unfolding_all rfl)); intro D' ws' h' F' N' l1 bA; (try k_lt l1); (try k_sweep)))
local macro_rules | `(tactic| walk_at "binaryOp Add ref ref") => `(tactic| (k_here; (with_reducible show wpAny _ _ (binaryOp _ (Value.ref _) (Value.ref _)) _ _ _); k_dflt (refine' b_add ?F ?N ?a ?b ?c ?d ?z ?_; (case F => k_asm); (case N => k_asm); (case a => k_mem); (case b => k_mem); (case c => with_reducible assumption); (case d => with_reducible assumption); (case z => walk_at "B arith")); intro D' us' h' F' N' l1 bA; (try k_lt l1); (try k_sweep)))
local macro_rules | `(tactic| walk_at "call ref") => `(tactic| (k_here; (with_reducible show wpAny _ _ (call (Value.ref 49) [Value.bytes _ _, Value.int 1 _]) _ _ _); k_dflt (refine' mixed_tells ?B ?F ?X ?N ?T ?k ?z ?d ?u ?_; (case B => k_asm); (case F => k_asm); (case X => k_asm); (case N => k_asm); (case T => k_asm); (case k => first | exact rfl | assumption); (case z => walk_at "B arith"); (case d => ktr_room); (case u => ktr_units)); intro tH hH tkH F' N'; (try dsimp only)))
local macro_rules | `(tactic| walk_at "call builtin:int.to_bytes") => `(tactic| (k_here; (with_reducible show wpAny _ _ (call (Value.builtin "int.to_bytes") [Value.int (mixZ _) _, Value.int _ _, Value.str _ _]) _ _ _); k_dflt (refine b_toBytes (mixZ_lo _) (mixZ_hi _) ?_); intro tB kB))
local macro_rules | `(tactic| walk_at "B arith") => `(tactic| (rw [toB_size]; decide))
def shaB (b : Array UInt8) : Array UInt8 := toB (mixZ b)
def dshaB (b : Array UInt8) : Array UInt8 := shaB (shaB b)
theorem shaB_size (b : Array UInt8) : (shaB b).size = 32 := toB_size _
theorem dshaB_size (b : Array UInt8) : (dshaB b).size ≤ b.size + 32 := by
  have := shaB_size (shaB b)
  unfold dshaB
  omega
theorem dsha_use {w : World} {mean : ExcName → Option Value} {mg mb : Str → Option Value} {dp un : Nat} {gd : Option (List Code)} {cn : Str} {cs : Scope} {a : Addr} {ccd : Value} {cl : List (Str × Addr)} {outer : List Env} {A₀ : Around} {base h₀ : Heap} {L : Addr} {m : Str → Option Value} {news : List (Addr × Obj)} {s : Shared} {Q E : Value → Shared → Prop} {b : Array UInt8} {t : Tok}
    (B : Below A₀ base outer h₀) (F : Fr h₀ L s.heap m) (X : (hd.heap_39 w.params).In h₀) (N : News h₀ L s.heap news) (T : Top hd.view_39 (looseW hd.view_39 [Str.ofString "merkle"]) mean mg mb h₀) (hk : cs.kind = .function)
    (hz : b.size ≤ 3000000) (hdp : dp + 4 < recursionLimit) (hun : un + 32 < cLine)
    (hret : ∀ t h' tk', Fr h₀ L h' m → News h₀ L h' news → Q (.bytes (dshaB b) t) { s with heap := h', toks := tk' }) :
    wpAny (model PySem.Challenge.rw_fw0034_01.row.prog w) (ktrTop dp un gd cn cs L a ccd cl outer) (call (.ref 63) [.bytes b t]) Q E s := by
  revert X
  k_fill
  intro X
  refine wpAny_call ?_
  k_dflt (walk_at "B enter")
  k_steps
  all_goals exact hret _ _ _ (by k_asm) (fun p hp => (by assumption : News h₀ L _ (_ :: _ :: _ :: _ :: news)) p (.tail _ (.tail _ (.tail _ (.tail _ hp)))))
end
section
theorem fresh_6 : True := by
  w_top off
  exact True.intro
local macro_rules | `(tactic| walk_at "B pad 0") => `(tactic| skip)
local macro_rules | `(tactic| walk_at "B pad 1") => `(tactic| skip)
local macro_rules | `(tactic| walk_at "B len") => `(tactic| first | assumption | (refine Nat.le_trans (And.left (by assumption)) ?_; decide) | omega | ((have hS9 := And.left (by with_reducible assumption : Small _)); (try simp only [List.length_append, List.length_cons, List.length_nil]); omega))
local macro_rules | `(tactic| walk_at "B arith") => `(tactic| first | assumption | omega | ((try simp only [List.length_append, List.length_drop, List.length_take, List.size_toArray, List.length_cons, List.length_nil, Array.size_append]); omega) | (law_clear; (try law_fm); omega))
local macro_rules | `(tactic| k_mem) => `(tactic| assumption)
local macro_rules | `(tactic| k_all) => `(tactic| assumption)
local macro_rules | `(tactic| walk_at "call builtin:len") => `(tactic| (k_here; (with_reducible show wpAny _ _ (call (Value.builtin "len") [Value.ref _]) _ _ _); k_dflt (refine' b_len ?N ?a ?b ?z ?_; (case N => k_asm); (case a => k_mem); (case b => with_reducible assumption); (case z => walk_at "B len"))))
local macro_rules | `(tactic| walk_at "B item") => `(tactic| (k_here; (with_reducible show wpAny _ _ (subscriptTail _ _ (Value.ref _) (Value.int _ _)) _ _ _); k_dflt (refine' b_itemS ?N ?a ?b ?c ?d ?e ?_ ?f; (case N => k_asm); (case a => k_mem); (case b => with_reducible assumption); (case c => with_reducible assumption); (case d => walk_at "B arith"); (case e => walk_at "B arith"); (case f => with_unfolding_all rfl)); intro bI tI eI sI))
local macro_rules | `(tactic| walk_at "B itemNeg") => `(tactic| (k_here; (with_reducible show wpAny _ _ (subscriptTail _ _ (Value.ref _) (Value.int _ _)) _ _ _); k_dflt (refine' b_itemNegS ?N ?a ?b ?c ?d ?e ?_ ?f; (case N => k_asm); (case a => k_mem); (case b => with_reducible assumption); (case c => with_reducible assumption); (case d => walk_at "B arith"); (case e => walk_at "B arith"); (case f => with_unfolding_all rfl)); intro bI tI eI sI))
local macro_rules | `(tactic| walk_at "subscriptTail Name Name ref int") => `(tactic| walk_at "B item")
local macro_rules | `(tactic| walk_at "subscriptTail Name BinOp ref int") => `(tactic| walk_at "B item")
local macro_rules | `(tactic| walk_at "subscriptTail Name Constant ref int") => `(tactic| walk_at "B item")
local macro_rules | `(tactic| walk_at "subscriptTail Name UnaryOp ref int") => `(tactic| walk_at "B itemNeg")
local macro_rules | `(tactic| walk_at "binaryOp Add bytes bytes") => `(tactic| (k_here; (with_reducible show wpAny _ _ (binaryOp Operator.Add (Value.bytes _ _) (Value.bytes _ _)) _ _ _); (refine KBy.add_bytes ?z ?_); (case z => walk_at "B arith"); intro tI kI))
local macro_rules | `(tactic| walk_at "call type:list") => `(tactic| (k_here; (with_reducible show wpAny _ _ (call (Value.type _) [Value.ref _]) _ _ _); k_dflt (refine' b_list ?N ?a ?b ?c ?z ?_; (case N => k_asm); (case a => k_asm); (case b => k_mem); (case c => with_reducible assumption); (case z => walk_at "B len")); intro D' c' h' F' N' l1; (try k_lt l1); (try k_sweep)))
local macro_rules | `(tactic| walk_at "call builtin:list.append") => `(tactic| (k_here; (with_reducible show wpAny _ _ (call (Value.builtin _) [Value.ref _, Value.bytes _ _]) _ _ _); k_dflt (refine' b_append ?k1 ?k2 ?k3 ?b ?z ?_; (case k1 => k_asm); (case k2 => k_asm); (case k3 => k_upd); (case b => with_reducible assumption); (case z => walk_at "B len"); k_whole); intro h' F' N' bA; (try k_sweep)))
local macro_rules | `(tactic| walk_at "compareOp Eq bytes bytes") => `(tactic| (refine b_eq ?_))
local macro_rules | `(tactic| walk_at "compareOp NotEq bytes bytes") => `(tactic| (refine b_ne ?_))
local macro_rules | `(tactic| walk_at "B enter") => `(tactic| (refine' code_def ?k1 ?k2 ?k3 ?k4 ?k5 ?kA ?kF ?kK ?k6 ?k7 ?k8 ?k9 ?kB ?_ ?c2 ?c3 ?c4 ?c5; (case kA => exact rfl); (case kF => exact rfl); (case kK => assumption); (case k1 => k_asm); (case k2 => k_asm); (case k3 => k_asm); (case k4 => k_asm); (case k5 => k_asm); (case k6 => k_is); (case k7 => k_is); (case k8 => ktr_room); (case k9 => first | exact BindsTo.of_eq rfl | exact binds_K (by k_in) rfl (by k_is) rfl rfl rfl); (case c5 => decide); (case kB => exact locs rfl); (case c2 => exact rfl); (case c3 => exact rfl); (case c4 => exact rfl); k_whole; intro g' L' h' FG' F' N' B' X' T'; (try dsimp only); (try k_fold)))
local macro_rules | `(tactic| walk_at "exec While Compare cons nil") => `(tactic| (k_here; (rename WhileWord _ => wW); k_dflt (refine' b_whileW wW ?F ?N ?hJ ?turn ?hE; (case F => k_asm); (case N => k_asm); (case hE => first | passes_own | with_unfolding_all passes_own)); clear wW))
local macro_rules | `(tactic| k_room) => `(tactic| ktr_room)
local macro_rules | `(tactic| k_units) => `(tactic| ktr_units)
local macro_rules | `(tactic| walk_at "B picks") => `(tactic| first | exact bs_all (by with_reducible assumption) | exact bs_upto (by with_reducible assumption) (by walk_at "B arith") | exact bs_from (by with_reducible assumption) (by walk_at "B arith") | exact bs_fromNeg (by with_reducible assumption) (by walk_at "B arith"))
local macro_rules | `(tactic| walk_at "subscriptTail Name Slice ref ref") => `(tactic| (k_here; (with_reducible show wpAny _ _ (subscriptTail _ (PySem.Expr.Slice _ _ none _) (Value.ref _) (Value.ref _)) _ _ _); k_dflt (refine' b_slice ?F ?N ?a ?p ?q ?b ?z ?c ?_ ?s ?t; (case F => k_asm); (case N => k_asm); (case a => k_mem); (case p => kmk_part); (case q => kmk_part); (case b => with_reducible assumption); (case z => walk_at "B len"); (case c => walk_at "B picks"); (case s => with_unfolding_all rfl); (case t => intro _; with_unfolding_all rfl)); intro D' ws' h' F' N' l1 bA; (try k_lt l1); (try k_sweep)))
local macro_rules | `(tactic| walk_at "binaryOp Add ref ref") => `(tactic| (k_here; (with_reducible show wpAny _ _ (binaryOp _ (Value.ref _) (Value.ref _)) _ _ _); k_dflt (refine' b_add ?F ?N ?a ?b ?c ?d ?z ?_; (case F => k_asm); (case N => k_asm); (case a => k_mem); (case b => k_mem); (case c => with_reducible assumption); (case d => with_reducible assumption); (case z => walk_at "B arith")); intro D' us' h' F' N' l1 bA; (try k_lt l1); (try k_sweep)))
local macro_rules | `(tactic| walk_at "call ref") => `(tactic| (k_here; (with_reducible show wpAny _ _ (call (Value.ref 49) [Value.bytes _ _, Value.int 1 _]) _ _ _); k_dflt (refine' mixed_tells ?B ?F ?X ?N ?T ?k ?z ?d ?u ?_; (case B => k_asm); (case F => k_asm); (case X => k_asm); (case N => k_asm); (case T => k_asm); (case k => first | exact rfl | assumption); (case z => walk_at "B arith"); (case d => ktr_room); (case u => ktr_units)); intro tH hH tkH F' N'; (try dsimp only)))
local macro_rules | `(tactic| walk_at "call builtin:int.to_bytes") => `(tactic| (k_here; (with_reducible show wpAny _ _ (call (Value.builtin "int.to_bytes") [Value.int (mixZ _) _, Value.int _ _, Value.str _ _]) _ _ _); k_dflt (refine b_toBytes (mixZ_lo _) (mixZ_hi _) ?_); intro tB kB))
local macro_rules | `(tactic| walk_at "B arith") => `(tactic| (rw [toB_size]; decide))
theorem sha_use {w : World} {mean : ExcName → Option Value} {mg mb : Str → Option Value} {dp un : Nat} {gd : Option (List Code)} {cn : Str} {cs : Scope} {a : Addr} {ccd : Value} {cl : List (Str × Addr)} {outer : List Env} {A₀ : Around} {base h₀ : Heap} {L : Addr} {m : Str → Option Value} {news : List (Addr × Obj)} {s : Shared} {Q E : Value → Shared → Prop} {b : Array UInt8} {t : Tok}
    (B : Below A₀ base outer h₀) (F : Fr h₀ L s.heap m) (X : (hd.heap_39 w.params).In h₀) (N : News h₀ L s.heap news) (T : Top hd.view_39 (looseW hd.view_39 [Str.ofString "merkle"]) mean mg mb h₀) (hk : cs.kind = .function)
    (hz : b.size ≤ 3000000) (hdp : dp + 3 < recursionLimit) (hun : un + 24 < cLine)
    (hret : ∀ x d tk0 t0 h' tk', Fr h₀ L h' m → News h₀ L h' ((x, instObj 38 d) :: (d, dictOf [{ hash := PyData.keyHash w.params (Str.ofString "octets"), key := .str (Str.ofString "octets") tk0, val := .bytes (toB (mixZ b)) t0 }] 1) :: news) →
      (∀ p ∈ news, p.1 < d) → d < x → Q (.ref x) { s with heap := h', toks := tk' }) :
    wpAny (model PySem.Challenge.rw_fw0034_01.row.prog w) (ktrTop dp un gd cn cs L a ccd cl outer) (call (.ref 56) [.bytes b t]) Q E s := by
  revert X
  k_fill
  intro X
  refine wpAny_call ?_
  k_dflt (walk_at "B enter")
  k_steps
  all_goals exact hret _ _ _ _ _ _ (by k_asm) (by k_asm) (by with_reducible assumption) (by with_reducible assumption)
end
section
theorem fresh_7 : True := by
  w_top off
  exact True.intro
local macro_rules | `(tactic| walk_at "B pad 0") => `(tactic| skip)
local macro_rules | `(tactic| walk_at "B pad 1") => `(tactic| skip)
local macro_rules | `(tactic| walk_at "B pad 2") => `(tactic| skip)
local macro_rules | `(tactic| walk_at "B pad 3") => `(tactic| skip)
local macro_rules | `(tactic| walk_at "B pad 4") => `(tactic| skip)
local macro_rules | `(tactic| walk_at "B len") => `(tactic| first | assumption | (refine Nat.le_trans (And.left (by assumption)) ?_; decide) | omega | ((have hS9 := And.left (by with_reducible assumption : Small _)); (try simp only [List.length_append, List.length_cons, List.length_nil]); omega))
local macro_rules | `(tactic| walk_at "B arith") => `(tactic| first | assumption | omega | ((try simp only [List.length_append, List.length_drop, List.length_take, List.size_toArray, List.length_cons, List.length_nil, Array.size_append]); omega) | (law_clear; (try law_fm); omega))
local macro_rules | `(tactic| k_mem) => `(tactic| assumption)
local macro_rules | `(tactic| k_all) => `(tactic| assumption)
local macro_rules | `(tactic| walk_at "call builtin:len") => `(tactic| (k_here; (with_reducible show wpAny _ _ (call (Value.builtin "len") [Value.ref _]) _ _ _); k_dflt (refine' b_len ?N ?a ?b ?z ?_; (case N => k_asm); (case a => k_mem); (case b => with_reducible assumption); (case z => walk_at "B len"))))
local macro_rules | `(tactic| walk_at "B item") => `(tactic| (k_here; (with_reducible show wpAny _ _ (subscriptTail _ _ (Value.ref _) (Value.int _ _)) _ _ _); k_dflt (refine' b_itemS ?N ?a ?b ?c ?d ?e ?_ ?f; (case N => k_asm); (case a => k_mem); (case b => with_reducible assumption); (case c => with_reducible assumption); (case d => walk_at "B arith"); (case e => walk_at "B arith"); (case f => with_unfolding_all rfl)); intro bI tI eI sI))
local macro_rules | `(tactic| walk_at "B itemNeg") => `(tactic| (k_here; (with_reducible show wpAny _ _ (subscriptTail _ _ (Value.ref _) (Value.int _ _)) _ _ _); k_dflt (refine' b_itemNegS ?N ?a ?b ?c ?d ?e ?_ ?f; (case N => k_asm); (case a => k_mem); (case b => with_reducible assumption); (case c => with_reducible assumption); (case d => walk_at "B arith"); (case e => walk_at "B arith"); (case f => with_unfolding_all rfl)); intro bI tI eI sI))
local macro_rules | `(tactic| walk_at "subscriptTail Name Name ref int") => `(tactic| walk_at "B item")
local macro_rules | `(tactic| walk_at "subscriptTail Name BinOp ref int") => `(tactic| walk_at "B item")
local macro_rules | `(tactic| walk_at "subscriptTail Name Constant ref int") => `(tactic| walk_at "B item")
local macro_rules | `(tactic| walk_at "subscriptTail Name UnaryOp ref int") => `(tactic| walk_at "B itemNeg")
local macro_rules | `(tactic| walk_at "binaryOp Add bytes bytes") => `(tactic| (k_here; (with_reducible show wpAny _ _ (binaryOp Operator.Add (Value.bytes _ _) (Value.bytes _ _)) _ _ _); (refine KBy.add_bytes ?z ?_); (case z => walk_at "B arith"); intro tI kI))
local macro_rules | `(tactic| walk_at "call type:list") => `(tactic| (k_here; (with_reducible show wpAny _ _ (call (Value.type _) [Value.ref _]) _ _ _); k_dflt (refine' b_list ?N ?a ?b ?c ?z ?_; (case N => k_asm); (case a => k_asm); (case b => k_mem); (case c => with_reducible assumption); (case z => walk_at "B len")); intro D' c' h' F' N' l1; (try k_lt l1); (try k_sweep)))
local macro_rules | `(tactic| walk_at "call builtin:list.append") => `(tactic| (k_here; (with_reducible show wpAny _ _ (call (Value.builtin _) [Value.ref _, Value.bytes _ _]) _ _ _); k_dflt (refine' b_append ?k1 ?k2 ?k3 ?b ?z ?_; (case k1 => k_asm); (case k2 => k_asm); (case k3 => k_upd); (case b => with_reducible assumption); (case z => walk_at "B len"); k_whole); intro h' F' N' bA; (try k_sweep)))
local macro_rules | `(tactic| walk_at "compareOp Eq bytes bytes") => `(tactic| (refine b_eq ?_))
local macro_rules | `(tactic| walk_at "compareOp NotEq bytes bytes") => `(tactic| (refine b_ne ?_))
local macro_rules | `(tactic| walk_at "B enter") => `(tactic| (refine' code_def ?k1 ?k2 ?k3 ?k4 ?k5 ?kA ?kF ?kK ?k6 ?k7 ?k8 ?k9 ?kB ?_ ?c2 ?c3 ?c4 ?c5; (case kA => exact rfl); (case kF => exact rfl); (case kK => assumption); (case k1 => k_asm); (case k2 => k_asm); (case k3 => k_asm); (case k4 => k_asm); (case k5 => k_asm); (case k6 => k_is); (case k7 => k_is); (case k8 => ktr_room); (case k9 => first | exact BindsTo.of_eq rfl | exact binds_K (by k_in) rfl (by k_is) rfl rfl rfl); (case c5 => decide); (case kB => exact locs rfl); (case c2 => exact rfl); (case c3 => exact rfl); (case c4 => exact rfl); k_whole; intro g' L' h' FG' F' N' B' X' T'; (try dsimp only); (try k_fold)))
local macro_rules | `(tactic| walk_at "exec While Compare cons nil") => `(tactic| (k_here; (rename WhileWord _ => wW); k_dflt (refine' b_whileW wW ?F ?N ?hJ ?turn ?hE; (case F => k_asm); (case N => k_asm); (case hE => first | passes_own | with_unfolding_all passes_own)); clear wW))
local macro_rules | `(tactic| k_room) => `(tactic| ktr_room)
local macro_rules | `(tactic| k_units) => `(tactic| ktr_units)
local macro_rules | `(tactic| walk_at "B picks") => `(tactic| first | exact bs_all (by with_reducible assumption) | exact bs_upto (by with_reducible assumption) (by walk_at "B arith") | exact bs_from (by with_reducible assumption) (by walk_at "B arith") | exact bs_fromNeg (by with_reducible assumption) (by walk_at "B arith"))
local macro_rules | `(tactic| walk_at "subscriptTail Name Slice ref ref") => `(tactic| (k_here; (with_reducible show wpAny _ _ (subscriptTail _ (PySem.Expr.Slice _ _ none _) (Value.ref _) (Value.ref _)) _ _ _); k_dflt (refine' b_slice ?F ?N ?a ?p ?q ?b ?z ?c ?_ ?s ?t; (case F => k_asm); (case N => k_asm); (case a => k_mem); (case p => kmk_part); (case q => kmk_part); (case b => with_reducible assumption); (case z => walk_at "B len"); (case c => walk_at "B picks"); (case s => with_unfolding_all rfl); (case t => intro _; with_unfolding_all rfl)); intro D' ws' h' F' N' l1 bA; (try k_lt l1); (try k_sweep)))
local macro_rules | `(tactic| walk_at "binaryOp Add ref ref") => `(tactic| (k_here; (with_reducible show wpAny _ _ (binaryOp _ (Value.ref _) (Value.ref _)) _ _ _); k_dflt (refine' b_add ?F ?N ?a ?b ?c ?d ?z ?_; (case F => k_asm); (case N => k_asm); (case a => k_mem); (case b => k_mem); (case c => with_reducible assumption); (case d => with_reducible assumption); (case z => walk_at "B arith")); intro D' us' h' F' N' l1 bA; (try k_lt l1); (try k_sweep)))
local macro_rules | `(tactic| walk_at "call ref") => `(tactic| (k_here; (with_reducible show wpAny _ _ (call (Value.ref 63) [Value.bytes _ _]) _ _ _); k_dflt (refine' dsha_use ?B ?F ?X ?N ?T ?k ?z ?d ?u ?_; (case B => k_asm); (case F => k_asm); (case X => k_asm); (case N => k_asm); (case T => k_asm); (case k => first | exact rfl | assumption); (case z => walk_at "B arith"); (case d => ktr_room); (case u => ktr_units)); intro tH hH tkH F' N'; (try dsimp only)))
theorem pair_63 {w : World} {mean : ExcName → Option Value} {mg mb : Str → Option Value}
    {dp un : Nat} {gd : Option (List Code)} {cn : Str} {cs : Scope} {a : Addr} {ccd : Value} {cl : List (Str × Addr)} {outer : List Env} {A₀ : Around} {base h₀ : Heap} {L : Addr} {m : Str → Option Value} {news : List (Addr × Obj)} {s : Shared} {Q E : Value → Shared → Prop}
    {l : Addr} {ws : List Value} {n : Nat} {bs : List (Array UInt8)}
    (B : Below A₀ base outer h₀) (F : Fr h₀ L s.heap m) (X : (hd.heap_39 w.params).In h₀) (N : News h₀ L s.heap news) (T : Top hd.view_39 (looseW hd.view_39 [Str.ofString "merkle"]) mean mg mb h₀) (hk : cs.kind = .function)
    (hl : (l, listOf ws.toArray n) ∈ news) (hb : BytesAre ws bs) (hS : Small bs) (h9 : bs.length ≤ 999)
    (hdp : dp + 6 < recursionLimit) (hun : un + 48 < cLine)
    (hret : ∀ a us k h' tk', Fr h₀ L h' m → News h₀ L h' ((a, listOf (List.toArray us) k) :: news) → (∀ p ∈ news, p.1 < a) → BytesAre us (pairF dshaB bs) → Q (.ref a) { s with heap := h', toks := tk' }) :
    wpAny (model PySem.Challenge.rw_fw0034_01.row.prog w) (ktrTop dp un gd cn cs L a ccd cl outer) (call (.ref 78) [.ref l, .ref 63]) Q E s := by
  revert X
  k_fill
  intro X
  refine wpAny_call ?_
  k_dflt ktr_enter
  k_steps
  · (rename Array UInt8 => bI)
    (rename BytesAre (_ ++ _) _ => bA)
    (rename Int.fmod _ _ = _ => hodd)
    (rename IsRange _ _ _ _ _ _ _ _ => hr)
    (rename _ = List.getD _ _ _ => eI)
    (rename Array.size _ ≤ _ => sI)
    (rename _ ∧ AllLt _ _ => l2)
    generalize hq0 : bs.length / 2 = q
    have hlen : bs.length = 2 * q + 1 := by
      rw [Int.fmod_eq_emod_of_nonneg _ (by decide)] at hodd
      omega
    have eT : (-1 + (bs.length : Int)).toNat = 2 * q := by omega
    rw [eT] at eI
    have hp := pairF_odd dshaB q bs bI hlen eI
    have hq : (bs ++ [bI]).length = 2 * (q + 1) := by rw [List.length_append, hlen]; rfl
    have hS2 : Small (bs ++ [bI]) := ⟨by rw [List.length_append]; exact Nat.succ_le_succ h9, fun x hx => by
      rcases List.mem_append.mp hx with hx | hx
      · exact hS.2 x hx
      · rw [List.mem_singleton.mp hx]; exact sI⟩
    generalize q + 1 = q' at hq
    clear eI hlen hodd eT hq0 q
    obtain ⟨hs, hhs⟩ : ∃ hs, hs = bs ++ [bI] := ⟨_, rfl⟩
    rw [← hhs] at hr bA hp hq hS2
    rw [hq] at hr
    have hq9 : q' ≤ 1000 := by have := hS2.1; omega
    refine b_range (n := q') (fun i ws => BytesAre ws (pairsTo dshaB hs i)) rfl hr (small_two q' hq9) (size_two q') (by k_asm) (by k_asm) rfl ?_ .nil ?_ ?_
    · intro p hp
      rcases List.mem_cons.mp hp with rfl | hp
      · exact Nat.ne_of_lt l2.1
      · exact Nat.ne_of_lt (ktn_ltOf l2.2 p hp)
    · intro i vs k t h tk own hi hR ho hne hsub F1 N1
      have hm := hsub _ (List.Mem.head _)
      have hz9 : (pairsTo dshaB hs i).length ≤ 1000000 := by rw [pairsTo_length]; omega
      k_steps
      exact grow_end (by k_asm) (by k_asm) ho (fun _ h => h) (pairs_turn (by assumption) (by assumption) (by assumption)) (fun y hy => if_neg hy)
    · intro vs k u h tk hR F1 N1
      k_steps
      rw [pairsTo_even _ _ _ hq, hp] at hR
      exact hret _ vs k _ _ (by k_asm) (news_drop2 (by k_asm)) (fun p hp => ktn_ltOf l2.2 p hp) hR
  · (rename Int.fmod _ _ ≠ _ => hodd)
    (rename IsRange _ _ _ _ _ _ _ _ => hr)
    have l2 := allLt_of (by assumption : ∀ p ∈ news, p.1 < _)
    generalize hq0 : bs.length / 2 = q
    have hq : bs.length = 2 * q := by
      rw [Int.fmod_eq_emod_of_nonneg _ (by decide)] at hodd
      omega
    clear hodd hq0
    rw [hq] at hr
    have hq9 : q ≤ 1000 := by have := hS.1; omega
    refine b_range (n := q) (fun i ws => BytesAre ws (pairsTo dshaB bs i)) rfl hr (small_two q hq9) (size_two q) (by k_asm) (by k_asm) rfl ?_ .nil ?_ ?_
    · intro p hp
      exact Nat.ne_of_lt (ktn_ltOf l2 p hp)
    · intro i vs k t h tk own hi hR ho hne hsub F1 N1
      have hm := hsub _ hl
      have hz9 : (pairsTo dshaB bs i).length ≤ 1000000 := by rw [pairsTo_length]; omega
      k_steps
      exact grow_end (by k_asm) (by k_asm) ho (fun _ h => h) (pairs_turn (by assumption) (by assumption) (by assumption)) (fun y hy => if_neg hy)
    · intro vs k u h tk hR F1 N1
      k_steps
      rw [pairsTo_even _ _ _ hq] at hR
      exact hret _ vs k _ _ (by k_asm) (by k_asm) (fun p hp => ktn_ltOf l2 p hp) hR
end
section
theorem fresh_8 : True := by
  w_top off
  exact True.intro
local macro_rules | `(tactic| walk_at "B pad 0") => `(tactic| skip)
local macro_rules | `(tactic| walk_at "B pad 1") => `(tactic| skip)
local macro_rules | `(tactic| walk_at "B pad 2") => `(tactic| skip)
local macro_rules | `(tactic| walk_at "B pad 3") => `(tactic| skip)
local macro_rules | `(tactic| walk_at "B pad 4") => `(tactic| skip)
local macro_rules | `(tactic| walk_at "B pad 5") => `(tactic| skip)
local macro_rules | `(tactic| walk_at "B len") => `(tactic| first | assumption | (refine Nat.le_trans (And.left (by assumption)) ?_; decide) | omega | ((have hS9 := And.left (by with_reducible assumption : Small _)); (try simp only [List.length_append, List.length_cons, List.length_nil]); omega))
local macro_rules | `(tactic| walk_at "B arith") => `(tactic| first | assumption | omega | ((try simp only [List.length_append, List.length_drop, List.length_take, List.size_toArray, List.length_cons, List.length_nil, Array.size_append]); omega) | (law_clear; (try law_fm); omega))
local macro_rules | `(tactic| k_mem) => `(tactic| assumption)
local macro_rules | `(tactic| k_all) => `(tactic| assumption)
local macro_rules | `(tactic| walk_at "call builtin:len") => `(tactic| (k_here; (with_reducible show wpAny _ _ (call (Value.builtin "len") [Value.ref _]) _ _ _); k_dflt (refine' b_len ?N ?a ?b ?z ?_; (case N => k_asm); (case a => k_mem); (case b => with_reducible assumption); (case z => walk_at "B len"))))
local macro_rules | `(tactic| walk_at "B item") => `(tactic| (k_here; (with_reducible show wpAny _ _ (subscriptTail _ _ (Value.ref _) (Value.int _ _)) _ _ _); k_dflt (refine' b_itemS ?N ?a ?b ?c ?d ?e ?_ ?f; (case N => k_asm); (case a => k_mem); (case b => with_reducible assumption); (case c => with_reducible assumption); (case d => walk_at "B arith"); (case e => walk_at "B arith"); (case f => with_unfolding_all rfl)); intro bI tI eI sI))
local macro_rules | `(tactic| walk_at "B itemNeg") => `(tactic| (k_here; (with_reducible show wpAny _ _ (subscriptTail _ _ (Value.ref _) (Value.int _ _)) _ _ _); k_dflt (refine' b_itemNegS ?N ?a ?b ?c ?d ?e ?_ ?f; (case N => k_asm); (case a => k_mem); (case b => with_reducible assumption); (case c => with_reducible assumption); (case d => walk_at "B arith"); (case e => walk_at "B arith"); (case f => with_unfolding_all rfl)); intro bI tI eI sI))
local macro_rules | `(tactic| walk_at "subscriptTail Name Name ref int") => `(tactic| walk_at "B item")
local macro_rules | `(tactic| walk_at "subscriptTail Name BinOp ref int") => `(tactic| walk_at "B item")
local macro_rules | `(tactic| walk_at "subscriptTail Name Constant ref int") => `(tactic| walk_at "B item")
local macro_rules | `(tactic| walk_at "subscriptTail Name UnaryOp ref int") => `(tactic| walk_at "B itemNeg")
local macro_rules | `(tactic| walk_at "binaryOp Add bytes bytes") => `(tactic| (k_here; (with_reducible show wpAny _ _ (binaryOp Operator.Add (Value.bytes _ _) (Value.bytes _ _)) _ _ _); (refine KBy.add_bytes ?z ?_); (case z => walk_at "B arith"); intro tI kI))
local macro_rules | `(tactic| walk_at "call type:list") => `(tactic| (k_here; (with_reducible show wpAny _ _ (call (Value.type _) [Value.ref _]) _ _ _); k_dflt (refine' b_list ?N ?a ?b ?c ?z ?_; (case N => k_asm); (case a => k_asm); (case b => k_mem); (case c => with_reducible assumption); (case z => walk_at "B len")); intro D' c' h' F' N' l1; (try k_lt l1); (try k_sweep)))
local macro_rules | `(tactic| walk_at "call builtin:list.append") => `(tactic| (k_here; (with_reducible show wpAny _ _ (call (Value.builtin _) [Value.ref _, Value.bytes _ _]) _ _ _); k_dflt (refine' b_append ?k1 ?k2 ?k3 ?b ?z ?_; (case k1 => k_asm); (case k2 => k_asm); (case k3 => k_upd); (case b => with_reducible assumption); (case z => walk_at "B len"); k_whole); intro h' F' N' bA; (try k_sweep)))
local macro_rules | `(tactic| walk_at "compareOp Eq bytes bytes") => `(tactic| (refine b_eq ?_))
local macro_rules | `(tactic| walk_at "compareOp NotEq bytes bytes") => `(tactic| (refine b_ne ?_))
local macro_rules | `(tactic| walk_at "B enter") => `(tactic| (refine' code_def ?k1 ?k2 ?k3 ?k4 ?k5 ?kA ?kF ?kK ?k6 ?k7 ?k8 ?k9 ?kB ?_ ?c2 ?c3 ?c4 ?c5; (case kA => exact rfl); (case kF => exact rfl); (case kK => assumption); (case k1 => k_asm); (case k2 => k_asm); (case k3 => k_asm); (case k4 => k_asm); (case k5 => k_asm); (case k6 => k_is); (case k7 => k_is); (case k8 => ktr_room); (case k9 => first | exact BindsTo.of_eq rfl | exact binds_K (by k_in) rfl (by k_is) rfl rfl rfl); (case c5 => decide); (case kB => exact locs rfl); (case c2 => exact rfl); (case c3 => exact rfl); (case c4 => exact rfl); k_whole; intro g' L' h' FG' F' N' B' X' T'; (try dsimp only); (try k_fold)))
local macro_rules | `(tactic| walk_at "exec While Compare cons nil") => `(tactic| (k_here; (rename WhileWord _ => wW); k_dflt (refine' b_whileW wW ?F ?N ?hJ ?turn ?hE; (case F => k_asm); (case N => k_asm); (case hE => first | passes_own | with_unfolding_all passes_own)); clear wW))
local macro_rules | `(tactic| k_room) => `(tactic| ktr_room)
local macro_rules | `(tactic| k_units) => `(tactic| ktr_units)
local macro_rules | `(tactic| walk_at "B picks") => `(tactic| first | exact bs_all (by with_reducible assumption) | exact bs_upto (by with_reducible assumption) (by walk_at "B arith") | exact bs_from (by with_reducible assumption) (by walk_at "B arith") | exact bs_fromNeg (by with_reducible assumption) (by walk_at "B arith"))
local macro_rules | `(tactic| walk_at "subscriptTail Name Slice ref ref") => `(tactic| (k_here; (with_reducible show wpAny _ _ (subscriptTail _ (PySem.Expr.Slice _ _ none _) (Value.ref _) (Value.ref _)) _ _ _); k_dflt (refine' b_slice ?F ?N ?a ?p ?q ?b ?z ?c ?_ ?s ?t; (case F => k_asm); (case N => k_asm); (case a => k_mem); (case p => kmk_part); (case q => kmk_part); (case b => with_reducible assumption); (case z => walk_at "B len"); (case c => walk_at "B picks"); (case s => with_unfolding_all rfl); (case t => intro _; with_unfolding_all rfl)); intro D' ws' h' F' N' l1 bA; (try k_lt l1); (try k_sweep)))
local macro_rules | `(tactic| walk_at "binaryOp Add ref ref") => `(tactic| (k_here; (with_reducible show wpAny _ _ (binaryOp _ (Value.ref _) (Value.ref _)) _ _ _); k_dflt (refine' b_add ?F ?N ?a ?b ?c ?d ?z ?_; (case F => k_asm); (case N => k_asm); (case a => k_mem); (case b => k_mem); (case c => with_reducible assumption); (case d => with_reducible assumption); (case z => walk_at "B arith")); intro D' us' h' F' N' l1 bA; (try k_lt l1); (try k_sweep)))
local macro_rules | `(tactic| walk_at "call ref") => `(tactic| (k_here; (with_reducible show wpAny _ _ (call (Value.ref 78) [Value.ref _, Value.ref 63]) _ _ _); k_dflt (refine' pair_63 ?B ?F ?X ?N ?T ?k ?a ?b ?z ?z9 ?d ?u ?_; (case B => k_asm); (case F => k_asm); (case X => k_asm); (case N => k_asm); (case T => k_asm); (case k => first | exact rfl | assumption); (case a => k_mem); (case b => with_reducible assumption); (case z => with_reducible assumption); (case z9 => walk_at "B len"); (case d => ktr_room); (case u => ktr_units)); intro aP usP kP hP tkP F' N' lP bP; (try dsimp only)))
theorem merkle_63 {w : World} {mean : ExcName → Option Value} {mg mb : Str → Option Value}
    {dp un : Nat} {gd : Option (List Code)} {cn : Str} {cs : Scope} {a : Addr} {ccd : Value} {cl : List (Str × Addr)} {outer : List Env} {A₀ : Around} {base h₀ : Heap} {L : Addr} {m : Str → Option Value} {news : List (Addr × Obj)} {s : Shared} {Q E : Value → Shared → Prop}
    {l : Addr} {ws : List Value} {n : Nat} {bs : List (Array UInt8)} {j : Nat}
    (B : Below A₀ base outer h₀) (F : Fr h₀ L s.heap m) (X : (hd.heap_39 w.params).In h₀) (N : News h₀ L s.heap news) (T : Top hd.view_39 (looseW hd.view_39 [Str.ofString "merkle"]) mean mg mb h₀) (hk : cs.kind = .function)
    (hl : (l, listOf ws.toArray n) ∈ news) (hb : BytesAre ws bs) (hR : Room j bs) (h0 : 0 < bs.length)
    (hdp : dp + 8 < recursionLimit) (hun : un + 64 < cLine)
    (hret : ∀ t h' tk', Fr h₀ L h' m → News h₀ L h' news → Q (.bytes (mk dshaB bs) t) { s with heap := h', toks := tk' }) :
    wpAny (model PySem.Challenge.rw_fw0034_01.row.prog w) (ktrTop dp un gd cn cs L a ccd cl outer) (call (.ref 71) [.ref l]) Q E s := by
  revert X
  k_fill
  intro X
  refine wpAny_call ?_
  k_dflt (walk_at "B enter")
  have hW : WhileWord (MerkleJ dshaB bs news (Str.ofString "hashes")) := .mk
  k_steps
  · exact ⟨bs.length, l, ws, n, bs, j, hl, fun _ h => h, hb, hR, rfl, h0, rfl, rfl, fun _ _ => rfl⟩
  · (rename WhileWord _ => wW)
    clear wW
    intro nn m₁ nx h tk hJ F1 N1
    obtain ⟨l1, ws1, k1, bs1, j1, hm, hsub, hb1, hR1, hlen, hpos, hmk, e1, e2⟩ := hJ
    have F2 := fr_one F1 e1 e2
    clear F1 e1 e2 m₁
    have hS := (room_small hR1).1
    have h9 := (room_small hR1).2
    k_steps
    · (rename BytesAre _ (pairF _ _) => bP)
      (rename (1 : Int) < _ => hgt)
      have hgt' : 1 < bs1.length := by omega
      refine while_end (by k_asm) (by k_asm) ⟨_, ?_, _, _, _, pairF dshaB bs1, j1 - 1, List.Mem.head _, fun p hp => .tail _ (hsub p hp), bP, room_pair dshaB_size hR1 hgt', rfl, ?_, ?_, rfl, fun y hy => ?_⟩
      · rw [pairF_length]; omega
      · rw [pairF_length]; omega
      · rw [← mk_more _ _ hgt', hmk]
      · exact (if_neg hy).trans (if_neg hy)
    · (rename _ = List.getD _ _ _ => eI)
      (rename ¬ (1 : Int) < _ => hgt)
      rw [eI, show bs1.getD (Int.toNat 0) #[] = mk dshaB bs by rw [← hmk, mk_one _ _ (by omega)]; rfl]
      exact hret _ _ _ (by k_asm) (fun p hp => (by assumption : News h₀ L _ nx) p (hsub p hp))
end
section
open PySem.SeqAt in
theorem eqAt_bytes {A : Around} {s : Shared} {b c : Array UInt8} {t u : Tok} : EqAt A s (.bytes b t) (.bytes c u) (decide (b = c)) := fun prog w E Q hq => by
  unfold eqBool
  refine wpAny_holding ?_
  refine wpAny_ite_split (fun hab => ?_) (fun _ => ?_)
  · have e : Value.bytes b t = Value.bytes c u := eq_of_beq hab
    have e2 : b = c := by injection e
    rw [decide_eq_true e2] at hq
    exact wpAny_bind (wpAny_rule (wpAny_pure hq))
  · exact wpAny_bind (b_eq (E := E) (wpAny_truthy_bool hq))
theorem bytes_at {vs : List Value} {bs : List (Array UInt8)} (h : BytesAre vs bs) (j : Nat) (h1 : j < vs.toArray.size) : ∃ t, vs.toArray[j] = Value.bytes (bs.getD j #[]) t := by
  have hl := h.length
  simp at h1
  obtain ⟨t, e⟩ := h.get (k := j) (by omega)
  refine ⟨t, ?_⟩
  rw [List.getElem?_eq_getElem h1] at e
  simpa using e
theorem all_eq : ∀ (bs cs : List (Array UInt8)), bs.length = cs.length → ((List.range bs.length).all fun j => decide (bs.getD j #[] = cs.getD j #[])) = decide (bs = cs)
  | [], [], _ => rfl
  | [], _ :: _, h => by simp at h
  | _ :: _, [], h => by simp at h
  | b :: bs, c :: cs, h => by
    have ih := all_eq bs cs (by simpa using h)
    rw [List.length_cons, List.range_succ_eq_map, List.all_cons, List.all_map]
    have e : ((fun j => decide ((b :: bs).getD j #[] = (c :: cs).getD j #[])) ∘ Nat.succ) = fun j => decide (bs.getD j #[] = cs.getD j #[]) := by funext j; rfl
    rw [e, ih]
    show (decide (b = c) && decide (bs = cs)) = decide (b :: bs = c :: cs)
    by_cases h1 : b = c <;> by_cases h2 : bs = cs <;> simp [h1, h2]
section
variable {prog : Program} {w : World} {A : Around} {E : Value → Shared → Prop} {s : Shared} {h₀ : Heap} {L l l2 : Addr} {news : List (Addr × Obj)} {vs ws : List Value} {bs cs : List (Array UInt8)} {n n2 : Nat}
theorem b_eqList {Q : Value → Shared → Prop} (N : News h₀ L s.heap news) (hm : (l, listOf vs.toArray n) ∈ news) (hm2 : (l2, listOf ws.toArray n2) ∈ news) (hb : BytesAre vs bs) (hc : BytesAre ws cs) (hu : A.units < cLine)
    (h : Q (.bool (decide (bs = cs))) s) : wpAny (model prog w) A (compareOp .Eq (.ref l) (.ref l2)) Q E s := by
  have q1 := hb.length
  have q2 := hc.length
  by_cases hlen : bs.length = cs.length
  · refine PySem.SeqAt.eq_listAt (N.isList hm) (N.isList hm2) (by simp; omega) hu (e := fun j => decide (bs.getD j #[] = cs.getD j #[])) (fun j h1 h2 => ?_) ?_
    · obtain ⟨t, e⟩ := bytes_at hb j h1
      obtain ⟨u, e'⟩ := bytes_at hc j h2
      rw [e, e']
      exact eqAt_bytes
    · rw [List.size_toArray, q1, all_eq bs cs hlen]
      exact h
  · have e : decide (bs = cs) = false := decide_eq_false fun x => hlen (by rw [x])
    rw [e] at h
    exact PySem.SeqAt.eq_list_lengthsAt (N.isList hm) (N.isList hm2) (by simp; omega) hu h
theorem b_neList {Q : Value → Shared → Prop} (N : News h₀ L s.heap news) (hm : (l, listOf vs.toArray n) ∈ news) (hm2 : (l2, listOf ws.toArray n2) ∈ news) (hb : BytesAre vs bs) (hc : BytesAre ws cs) (hu : A.units < cLine)
    (h : Q (.bool (decide (bs ≠ cs))) s) : wpAny (model prog w) A (compareOp .NotEq (.ref l) (.ref l2)) Q E s := by
  have q1 := hb.length
  have q2 := hc.length
  by_cases hlen : bs.length = cs.length
  · refine PySem.SeqAt.RcNeAt.lists (N.isList hm) (N.isList hm2) (by simp; omega) hu (e := fun j => decide (bs.getD j #[] = cs.getD j #[])) (fun j h1 h2 => ?_) prog w E Q ?_
    · obtain ⟨t, e⟩ := bytes_at hb j h1
      obtain ⟨u, e'⟩ := bytes_at hc j h2
      rw [e, e']
      exact eqAt_bytes
    · rw [List.size_toArray, q1, all_eq bs cs hlen]
      have e : (!decide (bs = cs)) = decide (bs ≠ cs) := by by_cases x : bs = cs <;> simp [x]
      rw [e]
      exact h
  · have e : decide (bs ≠ cs) = true := decide_eq_true fun x => hlen (by rw [x])
    rw [e] at h
    exact PySem.SeqAt.RcNeAt.lists_lengths (N.isList hm) (N.isList hm2) (by simp; omega) hu prog w E Q h
end
end
section
theorem fresh_10 : True := by
  w_top off
  exact True.intro
local macro_rules | `(tactic| walk_at "B pad 0") => `(tactic| skip)
local macro_rules | `(tactic| walk_at "B pad 1") => `(tactic| skip)
local macro_rules | `(tactic| walk_at "B pad 2") => `(tactic| skip)
local macro_rules | `(tactic| walk_at "B pad 3") => `(tactic| skip)
local macro_rules | `(tactic| walk_at "B pad 4") => `(tactic| skip)
local macro_rules | `(tactic| walk_at "B pad 5") => `(tactic| skip)
local macro_rules | `(tactic| walk_at "B pad 6") => `(tactic| skip)
local macro_rules | `(tactic| walk_at "B pad 7") => `(tactic| skip)
local macro_rules | `(tactic| walk_at "B len") => `(tactic| first | assumption | (refine Nat.le_trans (And.left (by assumption)) ?_; decide) | omega | ((have hS9 := And.left (by with_reducible assumption : Small _)); (try simp only [List.length_append, List.length_cons, List.length_nil]); omega))
local macro_rules | `(tactic| walk_at "B arith") => `(tactic| first | assumption | omega | ((try simp only [List.length_append, List.length_drop, List.length_take, List.size_toArray, List.length_cons, List.length_nil, Array.size_append]); omega) | (law_clear; (try law_fm); omega))
local macro_rules | `(tactic| k_mem) => `(tactic| assumption)
local macro_rules | `(tactic| k_all) => `(tactic| assumption)
local macro_rules | `(tactic| walk_at "call builtin:len") => `(tactic| (k_here; (with_reducible show wpAny _ _ (call (Value.builtin "len") [Value.ref _]) _ _ _); k_dflt (refine' b_len ?N ?a ?b ?z ?_; (case N => k_asm); (case a => k_mem); (case b => with_reducible assumption); (case z => walk_at "B len"))))
local macro_rules | `(tactic| walk_at "B item") => `(tactic| (k_here; (with_reducible show wpAny _ _ (subscriptTail _ _ (Value.ref _) (Value.int _ _)) _ _ _); k_dflt (refine' b_itemS ?N ?a ?b ?c ?d ?e ?_ ?f; (case N => k_asm); (case a => k_mem); (case b => with_reducible assumption); (case c => with_reducible assumption); (case d => walk_at "B arith"); (case e => walk_at "B arith"); (case f => with_unfolding_all rfl)); intro bI tI eI sI))
local macro_rules | `(tactic| walk_at "B itemNeg") => `(tactic| (k_here; (with_reducible show wpAny _ _ (subscriptTail _ _ (Value.ref _) (Value.int _ _)) _ _ _); k_dflt (refine' b_itemNegS ?N ?a ?b ?c ?d ?e ?_ ?f; (case N => k_asm); (case a => k_mem); (case b => with_reducible assumption); (case c => with_reducible assumption); (case d => walk_at "B arith"); (case e => walk_at "B arith"); (case f => with_unfolding_all rfl)); intro bI tI eI sI))
local macro_rules | `(tactic| walk_at "subscriptTail Name Name ref int") => `(tactic| walk_at "B item")
local macro_rules | `(tactic| walk_at "subscriptTail Name BinOp ref int") => `(tactic| walk_at "B item")
local macro_rules | `(tactic| walk_at "subscriptTail Name Constant ref int") => `(tactic| walk_at "B item")
local macro_rules | `(tactic| walk_at "subscriptTail Name UnaryOp ref int") => `(tactic| walk_at "B itemNeg")
local macro_rules | `(tactic| walk_at "binaryOp Add bytes bytes") => `(tactic| (k_here; (with_reducible show wpAny _ _ (binaryOp Operator.Add (Value.bytes _ _) (Value.bytes _ _)) _ _ _); (refine KBy.add_bytes ?z ?_); (case z => walk_at "B arith"); intro tI kI))
local macro_rules | `(tactic| walk_at "call type:list") => `(tactic| (k_here; (with_reducible show wpAny _ _ (call (Value.type _) [Value.ref _]) _ _ _); k_dflt (refine' b_list ?N ?a ?b ?c ?z ?_; (case N => k_asm); (case a => k_asm); (case b => k_mem); (case c => with_reducible assumption); (case z => walk_at "B len")); intro D' c' h' F' N' l1; (try k_lt l1); (try k_sweep)))
local macro_rules | `(tactic| walk_at "call builtin:list.append") => `(tactic| (k_here; (with_reducible show wpAny _ _ (call (Value.builtin _) [Value.ref _, Value.bytes _ _]) _ _ _); k_dflt (refine' b_append ?k1 ?k2 ?k3 ?b ?z ?_; (case k1 => k_asm); (case k2 => k_asm); (case k3 => k_upd); (case b => with_reducible assumption); (case z => walk_at "B len"); k_whole); intro h' F' N' bA; (try k_sweep)))
local macro_rules | `(tactic| walk_at "compareOp Eq bytes bytes") => `(tactic| (refine b_eq ?_))
local macro_rules | `(tactic| walk_at "compareOp NotEq bytes bytes") => `(tactic| (refine b_ne ?_))
local macro_rules | `(tactic| walk_at "B enter") => `(tactic| (refine' code_def ?k1 ?k2 ?k3 ?k4 ?k5 ?kA ?kF ?kK ?k6 ?k7 ?k8 ?k9 ?kB ?_ ?c2 ?c3 ?c4 ?c5; (case kA => exact rfl); (case kF => exact rfl); (case kK => assumption); (case k1 => k_asm); (case k2 => k_asm); (case k3 => k_asm); (case k4 => k_asm); (case k5 => k_asm); (case k6 => k_is); (case k7 => k_is); (case k8 => ktr_room); (case k9 => first | exact BindsTo.of_eq rfl | exact binds_K (by k_in) rfl (by k_is) rfl rfl rfl); (case c5 => decide); (case kB => exact locs rfl); (case c2 => exact rfl); (case c3 => exact rfl); (case c4 => exact rfl); k_whole; intro g' L' h' FG' F' N' B' X' T'; (try dsimp only); (try k_fold)))
local macro_rules | `(tactic| walk_at "exec While Compare cons nil") => `(tactic| (k_here; (rename WhileWord _ => wW); k_dflt (refine' b_whileW wW ?F ?N ?hJ ?turn ?hE; (case F => k_asm); (case N => k_asm); (case hE => first | passes_own | with_unfolding_all passes_own)); clear wW))
local macro_rules | `(tactic| k_room) => `(tactic| ktr_room)
local macro_rules | `(tactic| k_units) => `(tactic| ktr_units)
local macro_rules | `(tactic| walk_at "B picks") => `(tactic| first | exact bs_all (by with_reducible assumption) | exact bs_upto (by with_reducible assumption) (by walk_at "B arith") | exact bs_from (by with_reducible assumption) (by walk_at "B arith") | exact bs_fromNeg (by with_reducible assumption) (by walk_at "B arith"))
local macro_rules | `(tactic| walk_at "subscriptTail Name Slice ref ref") => `(tactic| (k_here; (with_reducible show wpAny _ _ (subscriptTail _ (PySem.Expr.Slice _ _ none _) (Value.ref _) (Value.ref _)) _ _ _); k_dflt (refine' b_slice ?F ?N ?a ?p ?q ?b ?z ?c ?_ ?s ?t; (case F => k_asm); (case N => k_asm); (case a => k_mem); (case p => kmk_part); (case q => kmk_part); (case b => with_reducible assumption); (case z => walk_at "B len"); (case c => walk_at "B picks"); (case s => with_unfolding_all rfl); (case t => intro _; with_unfolding_all rfl)); intro D' ws' h' F' N' l1 bA; (try k_lt l1); (try k_sweep)))
local macro_rules | `(tactic| walk_at "binaryOp Add ref ref") => `(tactic| (k_here; (with_reducible show wpAny _ _ (binaryOp _ (Value.ref _) (Value.ref _)) _ _ _); k_dflt (refine' b_add ?F ?N ?a ?b ?c ?d ?z ?_; (case F => k_asm); (case N => k_asm); (case a => k_mem); (case b => k_mem); (case c => with_reducible assumption); (case d => with_reducible assumption); (case z => walk_at "B arith")); intro D' us' h' F' N' l1 bA; (try k_lt l1); (try k_sweep)))
def fillF : Nat → Nat → List (Array UInt8) → List (Array UInt8)
  | 0, _, row => row
  | f + 1, size, row => if size < row.length then fillF f (2 * size) (if row.length / size % 2 = 1 ∧ row.length % size = 0 then row ++ row.drop (row.length - size) else row) else row
theorem fdiv_nat (a b : Nat) : Int.fdiv (a : Int) (b : Int) = ((a / b : Nat) : Int) := by
  rw [Int.fdiv_eq_ediv_of_nonneg _ (by omega)]; rfl
theorem fmod_nat (a b : Nat) : Int.fmod (a : Int) (b : Int) = ((a % b : Nat) : Int) := by
  rw [Int.fmod_eq_emod_of_nonneg _ (by omega)]; rfl
theorem fmod_two (a : Nat) : Int.fmod (a : Int) 2 = ((a % 2 : Nat) : Int) := fmod_nat a 2
theorem fill_end {n sz : Nat} {row : List (Array UInt8)} (h : ¬ ((sz : Int) < (row.length : Int))) : fillF n sz row = row := by
  cases n with
  | zero => rfl
  | succ n =>
    show (if sz < row.length then _ else row) = row
    rw [if_neg (by omega)]
theorem fill_sizes {nn sz len : Nat} (hsz : sz = 2 ^ (6 - nn)) (hn : nn ≤ 6) (h91 : len ≤ 32) (hmod : len % sz = 0) (hlt : sz < len) : ∃ k, nn = k + 1 ∧ k ≤ 6 ∧ 2 ^ (6 - k) = 2 * sz ∧
    (len / sz % 2 = 1 → len + sz ≤ 32 ∧ (len + sz) % (2 * sz) = 0) ∧ (len / sz % 2 ≠ 1 → len % (2 * sz) = 0) := by
  cases nn with
  | zero => simp at hsz; omega
  | succ k =>
    have hk : k = 0 ∨ k = 1 ∨ k = 2 ∨ k = 3 ∨ k = 4 ∨ k = 5 := by omega
    refine ⟨k, rfl, by omega, ?_⟩
    rcases hk with rfl | rfl | rfl | rfl | rfl | rfl <;> simp at hsz <;> subst hsz <;> refine ⟨by decide, ?_, ?_⟩ <;> intro _ <;> omega
theorem fill_odd {nn sz : Nat} {row : List (Array UInt8)} (hsz : sz = 2 ^ (6 - nn)) (hn : nn ≤ 6) (h91 : row.length ≤ 32) (hmod : row.length % sz = 0) (hlt : (sz : Int) < (row.length : Int)) (c1 : Int.fmod (Int.fdiv (row.length : Int) (sz : Int)) 2 = 1) :
    ∃ k, k < nn ∧ k ≤ 6 ∧ 2 ^ (6 - k) = 2 * sz ∧ (row ++ row.drop (row.length - (- -(sz : Int)).toNat)).length ≤ 32 ∧ (row ++ row.drop (row.length - (- -(sz : Int)).toNat)).length % 2 ^ (6 - k) = 0 ∧ fillF k (2 ^ (6 - k)) (row ++ row.drop (row.length - (- -(sz : Int)).toNat)) = fillF nn sz row := by
  obtain ⟨k, rfl, hk6, e2, ho, he⟩ := fill_sizes hsz hn h91 hmod (by omega)
  rw [fdiv_nat, fmod_two] at c1
  have hodd : row.length / sz % 2 = 1 := by omega
  have e : (- -(sz : Int)).toNat = sz := by omega
  have hl : (row ++ row.drop (row.length - sz)).length = row.length + sz := by rw [List.length_append, List.length_drop]; omega
  rw [e]
  refine ⟨k, by omega, hk6, e2, by rw [hl]; exact (ho hodd).1, by rw [hl, e2]; exact (ho hodd).2, ?_⟩
  show _ = if sz < row.length then _ else row
  rw [if_pos (by omega), if_pos ⟨hodd, hmod⟩, e2]
theorem fill_even {nn sz : Nat} {row : List (Array UInt8)} (hsz : sz = 2 ^ (6 - nn)) (hn : nn ≤ 6) (h91 : row.length ≤ 32) (hmod : row.length % sz = 0) (hlt : (sz : Int) < (row.length : Int)) (c1 : Int.fmod (Int.fdiv (row.length : Int) (sz : Int)) 2 ≠ 1) :
    ∃ k, k < nn ∧ k ≤ 6 ∧ 2 ^ (6 - k) = 2 * sz ∧ row.length % 2 ^ (6 - k) = 0 ∧ fillF k (2 ^ (6 - k)) row = fillF nn sz row := by
  obtain ⟨k, rfl, hk6, e2, ho, he⟩ := fill_sizes hsz hn h91 hmod (by omega)
  rw [fdiv_nat, fmod_two] at c1
  have hodd : row.length / sz % 2 ≠ 1 := by omega
  refine ⟨k, by omega, hk6, e2, by rw [e2]; exact he hodd, ?_⟩
  show _ = if sz < row.length then _ else row
  rw [if_pos (by omega), if_neg (fun x => hodd x.1), e2]
theorem small_app {bs cs : List (Array UInt8)} (h : Small bs) (hl : (bs ++ cs).length ≤ 1000) (hc : ∀ x ∈ cs, x ∈ bs) : Small (bs ++ cs) := ⟨hl, fun x hx => (List.mem_append.mp hx).elim (h.2 x) fun k => h.2 x (hc x k)⟩
theorem fill_all : ∀ (n sz : Nat) (row : List (Array UInt8)), sz = 2 ^ (6 - n) → n ≤ 6 → row.length ≤ 32 → row.length % sz = 0 → Small row → (fillF n sz row).length ≤ 32 ∧ Small (fillF n sz row) ∧ (fillF n sz row).length ≤ 2 ^ 6 := by
  intro n
  induction n with
  | zero => intro sz row _ _ h _ hs; exact ⟨h, hs, Nat.le_trans h (by decide)⟩
  | succ n ih =>
    intro sz row hsz hn h hm hs
    by_cases hlt : sz < row.length
    · obtain ⟨k, hk, hk6, e2, ho, he⟩ := fill_sizes hsz hn h hm hlt
      have ek : n = k := by omega
      subst ek
      have e : fillF (n + 1) sz row = fillF n (2 * sz) (if row.length / sz % 2 = 1 ∧ row.length % sz = 0 then row ++ row.drop (row.length - sz) else row) := by
        show (if sz < row.length then _ else row) = _
        rw [if_pos hlt]
      rw [e]
      by_cases hodd : row.length / sz % 2 = 1
      · have hl : (row ++ row.drop (row.length - sz)).length = row.length + sz := by rw [List.length_append, List.length_drop]; omega
        rw [if_pos ⟨hodd, hm⟩]
        exact ih _ _ e2.symm hk6 (by rw [hl]; exact (ho hodd).1) (by rw [hl]; exact (ho hodd).2) (small_app hs (by rw [hl]; exact Nat.le_trans (ho hodd).1 (by decide)) fun x hx => List.mem_of_mem_drop hx)
      · rw [if_neg (fun x => hodd x.1)]
        exact ih _ _ e2.symm hk6 h (he hodd) hs
    · have e : fillF (n + 1) sz row = row := by
        show (if sz < row.length then _ else row) = _
        rw [if_neg hlt]
      rw [e]
      exact ⟨h, hs, Nat.le_trans h (by decide)⟩
theorem fill_length {bs : List (Array UInt8)} (h : bs.length ≤ 32) (hs : Small bs) : (fillF 6 1 bs).length ≤ 32 := (fill_all 6 1 bs (by decide) (Nat.le_refl _) h (Nat.mod_one _) hs).1
theorem fill_small {bs : List (Array UInt8)} (h : bs.length ≤ 32) (hs : Small bs) : Small (fillF 6 1 bs) := (fill_all 6 1 bs (by decide) (Nat.le_refl _) h (Nat.mod_one _) hs).2.1
theorem fill_mem : ∀ (n sz : Nat) (row : List (Array UInt8)) (x : Array UInt8), x ∈ fillF n sz row → x ∈ row := by
  intro n
  induction n with
  | zero => intro _ _ _ h; exact h
  | succ n ih =>
    intro sz row x h
    unfold fillF at h
    split at h
    · have h' := ih _ _ _ h
      split at h'
      · exact (List.mem_append.mp h').elim id fun k => List.mem_of_mem_drop k
      · exact h'
    · exact h
theorem fill_getD {n sz : Nat} {row : List (Array UInt8)} (h : ∀ x ∈ row, x.size ≤ 1000) (k : Nat) : ((fillF n sz row).getD k #[]).size ≤ 1000 := by
  rw [List.getD_eq_getElem?_getD]
  cases e : (fillF n sz row)[k]? with
  | none => exact Nat.zero_le _
  | some x => exact h x (fill_mem n sz row x (List.mem_of_getElem? e))
def FillJ (bs : List (Array UInt8)) (news : List (Addr × Obj)) (m₀ : Str → Option Value) (_ : List (Addr × Obj)) (n : Nat) (m : Str → Option Value) (nx : List (Addr × Obj)) : Prop :=
  ∃ l ws k row t, (l, listOf (List.toArray ws) k) ∈ nx ∧ (∀ p ∈ news, p ∈ nx) ∧ BytesAre ws row ∧ Small row ∧ row.length ≤ 32 ∧ n ≤ 6 ∧ row.length % 2 ^ (6 - n) = 0 ∧ fillF n (2 ^ (6 - n)) row = fillF 6 1 bs ∧
    m (Str.ofString "row") = some (.ref l) ∧ m (Str.ofString "size") = some (.int ((2 ^ (6 - n) : Nat) : Int) t) ∧ ∀ y, y ≠ Str.ofString "row" → y ≠ Str.ofString "size" → m y = m₀ y
theorem filled_use {w : World} {mean : ExcName → Option Value} {mg mb : Str → Option Value}
    {dp un : Nat} {gd : Option (List Code)} {cn : Str} {cs : Scope} {a : Addr} {ccd : Value} {cl : List (Str × Addr)} {outer : List Env} {A₀ : Around} {base h₀ : Heap} {L : Addr} {m : Str → Option Value} {news : List (Addr × Obj)} {s : Shared} {Q E : Value → Shared → Prop}
    {l : Addr} {ws : List Value} {n : Nat} {bs : List (Array UInt8)}
    (B : Below A₀ base outer h₀) (F : Fr h₀ L s.heap m) (X : (hd.heap_39 w.params).In h₀) (N : News h₀ L s.heap news) (T : Top hd.view_39 (looseW hd.view_39 [Str.ofString "merkle"]) mean mg mb h₀) (hk : cs.kind = .function)
    (hl : (l, listOf ws.toArray n) ∈ news) (hb : BytesAre ws bs) (hS : Small bs) (h9 : bs.length ≤ 32)
    (hdp : dp + 2 < recursionLimit) (hun : un + 16 < cLine)
    (hret : ∀ a us k h' tk', Fr h₀ L h' m → News h₀ L h' ((a, listOf (List.toArray us) k) :: news) → BytesAre us (fillF 6 1 bs) → Q (.ref a) { s with heap := h', toks := tk' }) :
    wpAny (model PySem.Challenge.rw_fw0034_01.row.prog w) (ktrTop dp un gd cn cs L a ccd cl outer) (call (.ref 92) [.ref l]) Q E s := by
  revert X
  k_fill
  intro X
  refine wpAny_call ?_
  k_dflt (walk_at "B enter")
  have hW : WhileWord (FillJ bs news) := .mk
  k_steps
  · exact ⟨6, _, _, _, bs, _, .tail _ (.head _), fun p hp => .tail _ (.tail _ hp), by assumption, hS, h9, Nat.le_refl _, Nat.mod_one _, rfl, rfl, rfl, fun _ _ _ => rfl⟩
  · (rename WhileWord _ => wW)
    clear wW
    intro nn m₁ nx h tk hJ F1 N1
    obtain ⟨l1, ws1, k1, row, t1, hm, hsub, hb1, hS1, h91, hn, hmod, hfill, e1, e2, e3⟩ := hJ
    have F2 := fr_two F1 e1 e2 e3
    clear F1 e1 e2 e3 m₁
    obtain ⟨sz, hsz⟩ : ∃ sz, sz = 2 ^ (6 - nn) := ⟨_, rfl⟩
    rw [← hsz] at hmod hfill F2
    have hpos : 0 < sz := by rw [hsz]; exact Nat.pow_pos (by decide)
    have hpos' : (0 : Int) < (sz : Int) := by omega
    have hpos2 : (sz : Int) ≠ 0 := by omega
    k_steps
    · (rename ((sz : Nat) : Int) < _ => hlt)
      (rename Int.fmod _ 2 = 1 => c1)
      obtain ⟨k, hkn, hk6, hk2, hlen, hmd, hf⟩ := fill_odd hsz hn h91 hmod hlt c1
      refine while_end (by k_asm) (by k_asm) ⟨k, hkn, _, _, _, _, ?_, .head _, fun p hp => .tail _ (.tail _ (hsub p hp)), by assumption, small_app hS1 (Nat.le_trans hlen (by decide)) (fun x hx => List.mem_of_mem_drop hx), hlen, hk6, hmd, hf.trans hfill, rfl, ?_, fun y h1 h2 => ?_⟩
      rotate_left
      · rw [hk2]; rfl
      · exact (if_neg h2).trans ((if_neg h1).trans ((if_neg h1).trans (if_neg h2)))
    · (rename Int.fmod _ ((sz : Nat) : Int) ≠ 0 => c2)
      exact absurd (by rw [fmod_nat, hmod]; rfl) c2
    · (rename ((sz : Nat) : Int) < _ => hlt)
      (rename Int.fmod _ 2 ≠ 1 => c1)
      obtain ⟨k, hkn, hk6, hk2, hmd, hf⟩ := fill_even hsz hn h91 hmod hlt c1
      refine while_end (by k_asm) (by k_asm) ⟨k, hkn, _, _, _, _, ?_, hm, hsub, hb1, hS1, h91, hk6, hmd, hf.trans hfill, rfl, ?_, fun y h1 h2 => ?_⟩
      rotate_left
      · rw [hk2]; rfl
      · exact (if_neg h2).trans ((if_neg h1).trans (if_neg h2))
    · (rename ¬ ((sz : Nat) : Int) < _ => hlt)
      rw [fill_end hlt] at hfill
      refine hret _ _ k1 _ _ (by k_asm) (fun p hp => ?_) (hfill ▸ hb1)
      rcases List.mem_cons.mp hp with rfl | hp
      · exact (by assumption : News h₀ L _ nx) _ hm
      · exact (by assumption : News h₀ L _ nx) _ (hsub p hp)
end
section
/-- says by which word a comprehension is walked: of the turns done and the values made -/
structure CompWord (R : Nat → List Value → Prop) : Prop where
def BEl (news : List (Addr × Obj)) (G : Prop) (news' : List (Addr × Obj)) : Prop := news' = news ∧ Hold G
theorem bel_mk {news : List (Addr × Obj)} {G : Prop} (h : Hold G) : BEl news G news := ⟨rfl, h⟩
section
variable {prog : Program} {w : World} {A : Around} {h₀ : Heap} {L : Addr} {m : Str → Option Value} {env : Env} {ct elt : Expr} {x : Str} {scope : Scope} {cl : List (Str × Addr)} {s : Shared} {S : List (Addr × Obj) → Prop} {P : Nat → Value → Prop} {Fin : List Value → List (Addr × Obj) → Prop} {news : List (Addr × Obj)} {R : Nat → List Value → Prop}
theorem comp_rest {n : Nat} (_W : CompWord R) (start : Hold (R 0 []))
    (turn : Hold (∀ i v I oI C oC D m₂ ys h tk (E' : Value → Shared → Prop), i < n → P i v → R i ys → LCg.NsObj oC m₂ → m₂ x = some v → Fr h₀ L h m → News h₀ L h ((I, oI) :: (C, oC) :: (D, LCg.lst ys) :: news) → LCg.Off3 I C D news → ((@Ne Nat I C) ∧ (@Ne Nat I D) ∧ (@Ne Nat C D)) →
      wpAny (model prog w) A (eval elt (compEnvC scope cl C env)) (LCg.CompEnd h₀ L m { s with heap := h, toks := tk } I oI C oC D (LCg.lst ys) S (fun y news' => BEl news (R (i + 1) (ys ++ [y])) news')) E' { s with heap := h, toks := tk }))
    (done : Hold (∀ ys, R n ys → Fin ys news)) : LCg.CompRest prog w A h₀ L m env elt x scope cl s S P Fin n 0 [] news := by
  have key : ∀ (j i : Nat) (ys : List Value), i + j = n → R i ys → LCg.CompRest prog w A h₀ L m env elt x scope cl s S P Fin j i ys news := by
    intro j
    induction j with
    | zero =>
      intro i ys hi hy
      obtain rfl : i = n := by omega
      exact LCg.CompRest.zero (done ys hy)
    | succ j ih =>
      intro i ys hi hy
      refine LCg.CompRest.succ ?_
      intro v I oI C oC D m₂ h tk E' hv hC hx F N off ne
      refine wpAny_mono (turn i v I oI C oC D m₂ ys h tk E' (by omega) hv hy hC hx F N off ne) (fun y s₂ hq => ?_) fun _ _ e => e
      obtain ⟨h', tk', nw, e, F', N', off', hS, hn, hr⟩ := hq
      rw [hn] at N' off' hS
      exact ⟨h', tk', news, e, F', N', off', hS, ih (i + 1) _ (by omega) hr⟩
  exact key n 0 [] (by omega) start
theorem compT_rest {n : Nat} (_W : CompWord R) (start : Hold (R 0 []))
    (turn : Hold (∀ i v I oI C oC D m₂ ys h tk (E' : Value → Shared → Prop), i < n → P i v → R i ys → LCg.NsObj oC m₂ → m₂ x = some v → Fr h₀ L h m → News h₀ L h ((I, oI) :: (C, oC) :: (D, LCg.lst ys) :: news) → LCg.Off3 I C D news → ((@Ne Nat I C) ∧ (@Ne Nat I D) ∧ (@Ne Nat C D)) →
      wpAny (model prog w) A (isTrue ct (compEnvC scope cl C env) (eval ct (compEnvC scope cl C env))) (fun b s' => if b = true then wpAny (model prog w) A (eval elt (compEnvC scope cl C env)) (LCg.CompEnd h₀ L m { s with heap := h, toks := tk } I oI C oC D (LCg.lst ys) S (fun y news' => BEl news (R (i + 1) (ys ++ [y])) news')) E' s'
        else LCg.CompEnd h₀ L m { s with heap := h, toks := tk } I oI C oC D (LCg.lst ys) S (fun _ news' => BEl news (R (i + 1) ys) news') Value.none s') E' { s with heap := h, toks := tk }))
    (done : Hold (∀ ys, R n ys → Fin ys news)) : LCt.CompRestT prog w A h₀ L m env ct elt x scope cl s S P Fin n 0 [] news := by
  have key : ∀ (j i : Nat) (ys : List Value), i + j = n → R i ys → LCt.CompRestT prog w A h₀ L m env ct elt x scope cl s S P Fin j i ys news := by
    intro j
    induction j with
    | zero =>
      intro i ys hi hy
      obtain rfl : i = n := by omega
      exact LCt.CompRestT.zero (done ys hy)
    | succ j ih =>
      intro i ys hi hy
      refine LCt.CompRestT.succ ?_
      intro v I oI C oC D m₂ h tk E' hv hC hx F N off ne
      refine wpAny_mono (turn i v I oI C oC D m₂ ys h tk E' (by omega) hv hy hC hx F N off ne) (fun b s₂ hq => ?_) fun _ _ e => e
      cases b with
      | true =>
        simp only [if_true] at hq ⊢
        refine wpAny_mono hq (fun y s₃ hr => ?_) fun _ _ e => e
        obtain ⟨h', tk', nw, e, F', N', off', hS, hn, hr'⟩ := hr
        rw [hn] at N' off' hS
        exact ⟨h', tk', news, e, F', N', off', hS, ih (i + 1) _ (by omega) hr'⟩
      | false =>
        simp only [Bool.false_eq_true, if_false] at hq ⊢
        obtain ⟨h', tk', nw, e, F', N', off', hS, hn, hr'⟩ := hq
        rw [hn] at N' off' hS
        exact ⟨h', tk', news, e, F', N', off', hS, ih (i + 1) _ (by omega) hr'⟩
  exact key n 0 [] (by omega) start
end
theorem bel_at {ws : List Value} {bs : List (Array UInt8)} (H : BytesAre ws bs) {i : Nat} {v : Value} (h : ws.toArray[i]? = some v) : ∃ b t, bs[i]? = some b ∧ v = .bytes b t := by
  induction H generalizing i with
  | nil => simp at h
  | cons b t r ih =>
    cases i with
    | zero => simp at h; exact ⟨b, t, rfl, h.symm⟩
    | succ i => simp at h; obtain ⟨b', t', e, e'⟩ := ih (by simpa using h); exact ⟨b', t', by simpa using e, e'⟩
theorem bs_get {ws : List Value} {bs : List (Array UInt8)} (H : BytesAre ws bs) {i : Nat} {v : Value} (h : ws[i]? = some v) : ∃ b t, bs[i]? = some b ∧ v = .bytes b t :=
  bel_at H (by simpa using h)
theorem c_len {prog : Program} {w : World} {A : Around} {E : Value → Shared → Prop} {s : Shared} {h₀ : Heap} {L l : Addr} {news : List (Addr × Obj)} {ys : List Value} {n c : Nat} {Q : Value → Shared → Prop} (N : News h₀ L s.heap news) (hm : (l, listOf ys.toArray n) ∈ news) (hb : ys.length = c) (hz : c ≤ 1000000)
    (h : Q (.int (c : Nat) (s.toks + 1)) { s with toks := s.toks + 1 + 1 }) : wpAny (model prog w) A (call (.builtin "len") [.ref l]) Q E s := by
  have e : ys.toArray.size = c := by simp [hb]
  refine Calls.call_len_list (N.isList hm) (by omega) ?_
  rw [e]
  exact h
theorem noI_bytes_add : typeLookup (.type "bytes") (dunderI "add") = pure none := by rw [typeLookup_type, builtinLookup_eq_fast]; with_unfolding_all rfl
section
variable {prog : Program} {w : World} {A : Around} {E : Value → Shared → Prop} {s : Shared} {b c : Array UInt8} {t u : Tok} {Q : Value → Shared → Prop}
theorem b_iadd (hsz : b.size + c.size ≤ 16777216) (h : ∀ t' k, Q (.bytes (b ++ c) t') { s with toks := k }) : wpAny (model prog w) A (inplaceOp .Add (.bytes b t) (.bytes c u)) Q E s := by
  refine iconcat_gives (typeIs_bytes s b t) (typeIs_bytes s c u) noI_bytes_add KBy.noFill_bytes_add KBy.seq_bytes_add FB.slot_bytes_add FB.entry_bytes_add (FB.args_bytes_add_2 _ _) (KBy.gives_bytes_add (KBy.tooLong_not hsz)) ?_
  by_cases hb : b.isEmpty = true
  · rw [if_pos hb]
    have e : b = #[] := Array.isEmpty_iff.1 hb
    have h' := h u s.toks
    rw [e, Array.empty_append] at h'
    exact h'
  · rw [if_neg hb]
    by_cases hc : c.isEmpty = true
    · rw [if_pos hc]
      have e : c = #[] := Array.isEmpty_iff.1 hc
      have h' := h t s.toks
      rw [e, Array.append_empty] at h'
      exact h'
    · rw [if_neg hc]
      exact ⟨by rw [Array.size_append, sizeLine_eq]; exact hsz, h s.toks (s.toks + 1)⟩
def rep (n : Nat) (c : UInt8) : Array UInt8 := (List.replicate n c).toArray
theorem rep_size (n : Nat) (c : UInt8) : (rep n c).size = n := by simp [rep]
theorem b_rep {x : UInt8} {n : Nat} {l : List UInt8} (hl : l = [x]) (hn : n ≤ 1000000) (h : ∀ t' k, Q (.bytes (rep n x) t') { s with toks := k }) :
    wpAny (model prog w) A (binaryOp .Mult (.bytes l.toArray t) (.int ((n : Nat) : Int) u)) Q E s := by
  subst hl
  refine bytes_mul_any (List.cons_ne_nil _ _) (by omega) (by omega) (by simp) fun t' k => ?_
  have e : (List.replicate ((n : Int)).toNat [x]).flatten.toArray = rep n x := by simp [rep]
  rw [e]
  exact h t' k
end
end
section
theorem fresh_12 : True := by
  w_top off
  exact True.intro
local macro_rules | `(tactic| walk_at "B len") => `(tactic| first | assumption | (refine Nat.le_trans (And.left (by assumption)) ?_; decide) | omega | ((have hS9 := And.left (by with_reducible assumption : Small _)); (try simp only [List.length_append, List.length_cons, List.length_nil]); omega))
local macro_rules | `(tactic| walk_at "B arith") => `(tactic| first | assumption | omega | ((try simp only [List.length_append, List.length_drop, List.length_take, List.size_toArray, List.length_cons, List.length_nil, Array.size_append]); omega) | (law_clear; (try law_fm); omega))
local macro_rules | `(tactic| k_mem) => `(tactic| assumption)
local macro_rules | `(tactic| k_all) => `(tactic| assumption)
local macro_rules | `(tactic| walk_at "call builtin:len") => `(tactic| (k_here; (with_reducible show wpAny _ _ (call (Value.builtin "len") [Value.ref _]) _ _ _); k_dflt (refine' b_len ?N ?a ?b ?z ?_; (case N => k_asm); (case a => k_mem); (case b => with_reducible assumption); (case z => walk_at "B len"))))
local macro_rules | `(tactic| walk_at "B item") => `(tactic| (k_here; (with_reducible show wpAny _ _ (subscriptTail _ _ (Value.ref _) (Value.int _ _)) _ _ _); k_dflt (refine' b_itemS ?N ?a ?b ?c ?d ?e ?_ ?f; (case N => k_asm); (case a => k_mem); (case b => with_reducible assumption); (case c => with_reducible assumption); (case d => walk_at "B arith"); (case e => walk_at "B arith"); (case f => with_unfolding_all rfl)); intro bI tI eI sI))
local macro_rules | `(tactic| walk_at "B itemNeg") => `(tactic| (k_here; (with_reducible show wpAny _ _ (subscriptTail _ _ (Value.ref _) (Value.int _ _)) _ _ _); k_dflt (refine' b_itemNegS ?N ?a ?b ?c ?d ?e ?_ ?f; (case N => k_asm); (case a => k_mem); (case b => with_reducible assumption); (case c => with_reducible assumption); (case d => walk_at "B arith"); (case e => walk_at "B arith"); (case f => with_unfolding_all rfl)); intro bI tI eI sI))
local macro_rules | `(tactic| walk_at "subscriptTail Name Name ref int") => `(tactic| walk_at "B item")
local macro_rules | `(tactic| walk_at "subscriptTail Name BinOp ref int") => `(tactic| walk_at "B item")
local macro_rules | `(tactic| walk_at "subscriptTail Name Constant ref int") => `(tactic| walk_at "B item")
local macro_rules | `(tactic| walk_at "subscriptTail Name UnaryOp ref int") => `(tactic| walk_at "B itemNeg")
local macro_rules | `(tactic| walk_at "binaryOp Add bytes bytes") => `(tactic| (k_here; (with_reducible show wpAny _ _ (binaryOp Operator.Add (Value.bytes _ _) (Value.bytes _ _)) _ _ _); (refine KBy.add_bytes ?z ?_); (case z => walk_at "B arith"); intro tI kI))
local macro_rules | `(tactic| walk_at "call type:list") => `(tactic| (k_here; (with_reducible show wpAny _ _ (call (Value.type _) [Value.ref _]) _ _ _); k_dflt (refine' b_list ?N ?a ?b ?c ?z ?_; (case N => k_asm); (case a => k_asm); (case b => k_mem); (case c => with_reducible assumption); (case z => walk_at "B len")); intro D' c' h' F' N' l1; (try k_lt l1); (try k_sweep)))
local macro_rules | `(tactic| walk_at "call builtin:list.append") => `(tactic| (k_here; (with_reducible show wpAny _ _ (call (Value.builtin _) [Value.ref _, Value.bytes _ _]) _ _ _); k_dflt (refine' b_append ?k1 ?k2 ?k3 ?b ?z ?_; (case k1 => k_asm); (case k2 => k_asm); (case k3 => k_upd); (case b => with_reducible assumption); (case z => walk_at "B len"); k_whole); intro h' F' N' bA; (try k_sweep)))
local macro_rules | `(tactic| walk_at "compareOp Eq bytes bytes") => `(tactic| (refine b_eq ?_))
local macro_rules | `(tactic| walk_at "compareOp NotEq bytes bytes") => `(tactic| (refine b_ne ?_))
local macro_rules | `(tactic| walk_at "B enter") => `(tactic| (refine' code_def ?k1 ?k2 ?k3 ?k4 ?k5 ?kA ?kF ?kK ?k6 ?k7 ?k8 ?k9 ?kB ?_ ?c2 ?c3 ?c4 ?c5; (case kA => exact rfl); (case kF => exact rfl); (case kK => assumption); (case k1 => k_asm); (case k2 => k_asm); (case k3 => k_asm); (case k4 => k_asm); (case k5 => k_asm); (case k6 => k_is); (case k7 => k_is); (case k8 => ktr_room); (case k9 => first | exact BindsTo.of_eq rfl | exact binds_K (by k_in) rfl (by k_is) rfl rfl rfl); (case c5 => decide); (case kB => exact locs rfl); (case c2 => exact rfl); (case c3 => exact rfl); (case c4 => exact rfl); k_whole; intro g' L' h' FG' F' N' B' X' T'; (try dsimp only); (try k_fold)))
local macro_rules | `(tactic| walk_at "exec While Compare cons nil") => `(tactic| (k_here; (rename WhileWord _ => wW); k_dflt (refine' b_whileW wW ?F ?N ?hJ ?turn ?hE; (case F => k_asm); (case N => k_asm); (case hE => first | passes_own | with_unfolding_all passes_own)); clear wW))
local macro_rules | `(tactic| k_room) => `(tactic| ktr_room)
local macro_rules | `(tactic| k_units) => `(tactic| ktr_units)
local macro_rules | `(tactic| walk_at "B picks") => `(tactic| first | exact bs_all (by with_reducible assumption) | exact bs_upto (by with_reducible assumption) (by walk_at "B arith") | exact bs_from (by with_reducible assumption) (by walk_at "B arith") | exact bs_fromNeg (by with_reducible assumption) (by walk_at "B arith"))
local macro_rules | `(tactic| walk_at "subscriptTail Name Slice ref ref") => `(tactic| (k_here; (with_reducible show wpAny _ _ (subscriptTail _ (PySem.Expr.Slice _ _ none _) (Value.ref _) (Value.ref _)) _ _ _); k_dflt (refine' b_slice ?F ?N ?a ?p ?q ?b ?z ?c ?_ ?s ?t; (case F => k_asm); (case N => k_asm); (case a => k_mem); (case p => kmk_part); (case q => kmk_part); (case b => with_reducible assumption); (case z => walk_at "B len"); (case c => walk_at "B picks"); (case s => with_unfolding_all rfl); (case t => intro _; with_unfolding_all rfl)); intro D' ws' h' F' N' l1 bA; (try k_lt l1); (try k_sweep)))
local macro_rules | `(tactic| walk_at "binaryOp Add ref ref") => `(tactic| (k_here; (with_reducible show wpAny _ _ (binaryOp _ (Value.ref _) (Value.ref _)) _ _ _); k_dflt (refine' b_add ?F ?N ?a ?b ?c ?d ?z ?_; (case F => k_asm); (case N => k_asm); (case a => k_mem); (case b => k_mem); (case c => with_reducible assumption); (case d => with_reducible assumption); (case z => walk_at "B arith")); intro D' us' h' F' N' l1 bA; (try k_lt l1); (try k_sweep)))
local macro_rules | `(tactic| walk_at "B same") => `(tactic| first | with_reducible assumption | exact BytesAre.nil)
local macro_rules | `(tactic| walk_at "compareOp Eq ref ref") => `(tactic| (k_here; (with_reducible show wpAny _ _ (compareOp CmpOp.Eq (Value.ref _) (Value.ref _)) _ _ _); k_dflt (refine' b_eqList ?N ?a ?b ?c ?d ?u ?_; (case N => k_asm); (case a => k_mem); (case b => k_mem); (case c => walk_at "B same"); (case d => walk_at "B same"); (case u => ktr_units))))
local macro_rules | `(tactic| walk_at "compareOp NotEq ref ref") => `(tactic| (k_here; (with_reducible show wpAny _ _ (compareOp CmpOp.NotEq (Value.ref _) (Value.ref _)) _ _ _); k_dflt (refine' b_neList ?N ?a ?b ?c ?d ?u ?_; (case N => k_asm); (case a => k_mem); (case b => k_mem); (case c => walk_at "B same"); (case d => walk_at "B same"); (case u => ktr_units))))
local macro_rules | `(tactic| walk_at "B enterC") => `(tactic| (refine' code_defC ?k1 ?k2 ?k3 ?k4 ?k5 ?kA ?kF ?kK ?k6 ?k7 ?k8 ?k9 ?kB ?kD ?_ ?c2 ?c3 ?c4; (case kA => exact rfl); (case kF => exact rfl); (case kK => first | exact rfl | assumption); (case k1 => k_asm); (case k2 => k_asm); (case k3 => k_asm); (case k4 => k_asm); (case k5 => k_asm); (case k6 => k_is); (case k7 => k_is); (case k8 => ktr_room); (case k9 => first | exact BindsTo.of_eq rfl | exact binds_K (by k_in) rfl (by k_is) rfl rfl rfl); (case kB => exact rfl); (case kD => decide +kernel); (case c2 => exact rfl); (case c3 => exact rfl); (case c4 => exact rfl); k_whole; intro g' L' h' tk' cells' FG' F' N' Y' B' X' T' l1; (try k_lt l1); k_cells Y'; (try simp only [List.cons_append, List.nil_append] at N'); (try dsimp only); (try k_lift B'); (try k_fold)))
local macro_rules | `(tactic| walk_at "exec For Tuple Call") => `(tactic| (k_here; (with_reducible show wpAny _ _ (exec (Stmt.For (PySem.Expr.Tuple _ _ _) (PySem.Expr.Call (PySem.Expr.Name (Str.ofString "enumerate") _) _ _ _) _ _ _) _) _ _ _); (with_reducible rename Fr _ _ _ _ => kF); k_dflt (refine' For_turns kF ?_ ?hs ?hE; (case hs => intro _; rfl); (case hE => first | passes_own | with_unfolding_all passes_own))))
local macro_rules | `(tactic| walk_at "call type:enumerate") => `(tactic| (k_here; (rename EnumWord _ => eW); k_dflt (refine' b_enumW eW ?hh ?F ?N ?hm ?hc ?hd ?hJ ?turn ?done; (case hh => rfl); (case F => k_asm); (case N => k_asm); (case hm => k_mem); (case hc => rfl); (case hd => rfl)); (try clear eW)))
local macro_rules | `(tactic| walk_at "eval ListComp") => `(tactic| (k_here; (with_reducible show wpAny _ _ (eval (PySem.Expr.ListComp _ [PySem.Comprehension.mk _ _ [] _] _ _) _) _ _ _); (rename CompWord _ => cW); k_dflt (refine LCg.ListComp_U (F₀ := by k_asm) (by with_unfolding_all rfl) (by decide) (by rfl) (by decide) (by rfl) ?_)))
local macro_rules | `(tactic| walk_at "eval ListComp") => `(tactic| (k_here; (with_reducible show wpAny _ _ (eval (PySem.Expr.ListComp _ [PySem.Comprehension.mk _ _ [_] _] _ _) _) _ _ _); (rename CompWord _ => cW); k_dflt (refine LCt.ListComp_T (F₀ := by k_asm) (by with_unfolding_all rfl) (by decide) (by rfl) (by decide) (by rfl) ?_)))
local macro_rules | `(tactic| walk_at "exec Assign cons ListComp") => `(tactic| (k_here; (with_reducible show wpAny _ _ (exec (PySem.Stmt.Assign _ (PySem.Expr.ListComp _ [PySem.Comprehension.mk _ _ [] _] _ _) _) _) _ _ _); (rename CompWord _ => cW); k_dflt (refine LCg.Assign_ListComp_U (F₀ := by k_asm) (by rfl) (by with_unfolding_all rfl) (by with_unfolding_all rfl) (by decide) (by rfl) (by decide) (by rfl) (by rfl) (by rfl) ?_)))
local macro_rules | `(tactic| walk_at "exec Assign cons ListComp") => `(tactic| (k_here; (with_reducible show wpAny _ _ (exec (PySem.Stmt.Assign _ (PySem.Expr.ListComp _ [PySem.Comprehension.mk _ _ [_] _] _ _) _) _) _ _ _); (rename CompWord _ => cW); k_dflt (refine LCt.Assign_ListComp_T (F₀ := by k_asm) (by rfl) (by with_unfolding_all rfl) (by with_unfolding_all rfl) (by decide) (by rfl) (by decide) (by rfl) (by rfl) (by rfl) ?_)))
local macro_rules | `(tactic| walk_at "B csize") => `(tactic| first | (rw [PySem.sizeLine_eq]; omega) | (rw [PySem.sizeLine_eq]; (simp only [List.size_toArray]); omega) | ((have hS9 := Nat.le_of_eq (BytesAre.length (by with_reducible assumption))); rw [PySem.sizeLine_eq]; (simp only [List.size_toArray]); omega))
local macro_rules | `(tactic| walk_at "CompSrc") => `(tactic| (k_here; (rename CompWord _ => cW); (try k_fmods); k_dflt (first
  | (refine' LCg.CompSrc.range ?h ?F ?N ?r ?sm (rangeSize_nat _ _) ?z ?_; (case h => rfl); (case F => k_asm); (case N => k_asm); (case r => assumption); (case sm => exact small_one (by omega) (by omega) (by omega) (by omega)); (case z => walk_at "B csize"); intro g'; refine' comp_rest cW ?_ ?_ ?_)
  | (refine' LCg.CompSrc.ledger ?h ?F ?N ?m ?z ?_; (case h => rfl); (case F => k_asm); (case N => k_asm); (case m => k_mem); (case z => walk_at "B csize"); intro g'; refine' comp_rest cW ?_ ?_ ?_)); (try clear cW)))
local macro_rules | `(tactic| walk_at "CompSrcT") => `(tactic| (k_here; (rename CompWord _ => cW); k_dflt (first
  | (refine' LCt.CompSrcT.range ?h ?F ?N ?r ?sm (rangeSize_nat _ _) ?z ?_; (case h => rfl); (case F => k_asm); (case N => k_asm); (case r => assumption); (case sm => exact small_one (by omega) (by omega) (by omega) (by omega)); (case z => walk_at "B csize"); intro g'; refine' compT_rest cW ?_ ?_ ?_)
  | (refine' LCt.CompSrcT.ledger ?h ?F ?N ?m ?z ?_; (case h => rfl); (case F => k_asm); (case N => k_asm); (case m => k_mem); (case z => walk_at "B csize"); intro g'; refine' compT_rest cW ?_ ?_ ?_)); (try clear cW)))
local macro_rules | `(tactic| walk_at "CompEnd") => `(tactic| (refine' LCg.CompEnd.intro ?F ?N _ ?sub ?off ?hS (bel_mk ?_); (case F => k_asm); (case N => k_asm); (case sub => kcf_all); (case off => first | assumption | (simp only [LCg.Off3, and_true]; done) | (simp only [LCg.Off3, and_true]; assumption)); (case hS => first | lcg_src | assumption)))
local macro_rules | `(tactic| walk_at "call builtin:len") => `(tactic| (k_here; (with_reducible show wpAny _ _ (call (Value.builtin "len") [Value.ref _]) _ _ _); k_dflt (refine' c_len ?N ?a ?b ?z ?_; (case N => k_asm); (case a => k_mem); (case b => with_reducible assumption); (case z => omega))))
local macro_rules | `(tactic| walk_at "inplaceOp Add bytes bytes") => `(tactic| (k_here; (with_reducible show wpAny _ _ (inplaceOp Operator.Add (Value.bytes _ _) (Value.bytes _ _)) _ _ _); (refine b_iadd ?z ?_); (case z => walk_at "B arith"); intro tI kI))
local macro_rules | `(tactic| walk_at "binaryOp Mult bytes int") => `(tactic| (k_here; (with_reducible show wpAny _ _ (binaryOp Operator.Mult (Value.bytes (List.toArray _) _) (Value.int _ _)) _ _ _); k_dflt (refine' b_rep ?h ?n ?_; (case h => exact rfl); (case n => omega)); intro tI kI))
local macro_rules | `(tactic| walk_at "call ref") => `(tactic| (k_here; (with_reducible show wpAny _ _ (call (Value.ref 92) [Value.ref _]) _ _ _); k_dflt (refine' filled_use ?B ?F ?X ?N ?T ?k ?a ?b ?z ?z9 ?d ?u ?_; (case B => k_asm); (case F => k_asm); (case X => k_asm); (case N => k_asm); (case T => k_asm); (case k => first | exact rfl | assumption); (case a => k_mem); (case b => with_reducible assumption); (case z => with_reducible assumption); (case z9 => walk_at "B len"); (case d => ktr_room); (case u => ktr_units)); intro aP usP kP hP tkP F' N' bP; (try dsimp only)))
def DepthJ (bs : List (Array UInt8)) (m₀ : Str → Option Value) (nx₀ : List (Addr × Obj)) (n : Nat) (m : Str → Option Value) (nx : List (Addr × Obj)) : Prop :=
  nx = nx₀ ∧ ∃ d t, d + n = 6 ∧ (d = 0 ∨ 2 ^ (d - 1) < (fillF 6 1 bs).length) ∧ m (Str.ofString "depth") = some (.int ((d : Nat) : Int) t) ∧ ∀ y, y ≠ Str.ofString "depth" → m y = m₀ y
/-- how often the place k begins a block: of the powers of two to 2^d -/
def cntF (d k : Nat) : Nat := ((List.range d).filter fun i => k % 2 ^ (i + 1) = 0).length
theorem cnt_le (d k : Nat) : cntF d k ≤ d := by
  unfold cntF
  exact Nat.le_trans (List.length_filter_le _ _) (by rw [List.length_range]; exact Nat.le_refl _)
theorem cnt_pow (i k : Nat) : Int.fmod ((k : Nat) : Int) (2 ^ (1 + (i : Int)).toNat) = ((k % 2 ^ (i + 1) : Nat) : Int) := by
  have e : (1 + (i : Int)).toNat = i + 1 := by omega
  rw [e, ← fmod_nat]
  norm_cast
theorem cnt_yes {i k c : Nat} (h : Int.fmod ((k : Nat) : Int) (2 ^ (1 + (i : Int)).toNat) = 0) (hc : c = cntF i k) : c + 1 = cntF (i + 1) k := by
  rw [cnt_pow] at h
  have h' : k % 2 ^ (i + 1) = 0 := by omega
  unfold cntF at hc ⊢
  rw [List.range_succ, List.filter_append, List.length_append, ← hc]
  simp [h']
theorem cnt_no {i k c : Nat} (h : ¬ Int.fmod ((k : Nat) : Int) (2 ^ (1 + (i : Int)).toNat) = 0) (hc : c = cntF i k) : c = cntF (i + 1) k := by
  rw [cnt_pow] at h
  have h' : ¬ k % 2 ^ (i + 1) = 0 := by omega
  unfold cntF at hc ⊢
  rw [List.range_succ, List.filter_append, List.length_append, ← hc]
  simp [h']
theorem toNat_back (d : Nat) : ((d : Int) + 1 - 1).toNat = d := by omega
def toldTo (d : Nat) (row : List (Array UInt8)) : Nat → Array UInt8
  | 0 => #[]
  | k + 1 => toldTo d row k ++ (rep (cntF d k) 40 ++ row.getD k #[] ++ rep (cntF d (k + 1)) 41)
theorem told_size (d : Nat) (row : List (Array UInt8)) (hS : ∀ k, (row.getD k #[]).size ≤ 1000) (hd : d ≤ 6) (k : Nat) : (toldTo d row k).size ≤ 1100 * k := by
  induction k with
  | zero => exact Nat.le_refl _
  | succ k ih =>
    show (toldTo d row k ++ (rep (cntF d k) 40 ++ row.getD k #[] ++ rep (cntF d (k + 1)) 41)).size ≤ _
    rw [Array.size_append, Array.size_append, Array.size_append, rep_size, rep_size]
    have h1 := cnt_le d k
    have h2 := cnt_le d (k + 1)
    have h3 := hS k
    omega
theorem pow_nat {d n : Nat} (h : (2 : Int) ^ ((d : Int)).toNat < ((n : Nat) : Int)) : 2 ^ d < n := by
  have e : ((d : Int)).toNat = d := by omega
  rw [e] at h
  exact_mod_cast h
theorem pow_not {d n : Nat} (h : ¬ (2 : Int) ^ ((d : Int)).toNat < ((n : Nat) : Int)) : n ≤ 2 ^ d := by
  have e : ((d : Int)).toNat = d := by omega
  rw [e] at h
  have : ¬ (2 ^ d < n) := fun k => h (by exact_mod_cast k)
  omega
theorem told_off {a b c I : Addr} {oa ob oc oc' oE oI : Obj} {news : List (Addr × Obj)} (hI : ∀ p ∈ (a, oa) :: (b, ob) :: (c, oc) :: news, p.1 < I) :
    ∀ p ∈ (a, oa) :: (b, ob) :: (c, oc') :: news, ∀ q ∈ [(I + 1, oE), (I, oI)], p.1 ≠ q.1 := by
  have h : ∀ p ∈ (a, oa) :: (b, ob) :: (c, oc') :: news, p.1 < I := by
    intro p hp
    rcases List.mem_cons.mp hp with rfl | hp
    · exact hI _ (.head _)
    · rcases List.mem_cons.mp hp with rfl | hp
      · exact hI _ (.tail _ (.head _))
      · rcases List.mem_cons.mp hp with rfl | hp
        · exact hI (c, oc) (.tail _ (.tail _ (.head _)))
        · exact hI _ (.tail _ (.tail _ (.tail _ hp)))
  intro p hp q hq
  have hl := h p hp
  rcases List.mem_cons.mp hq with rfl | hq
  · exact Nat.ne_of_lt (Nat.lt_succ_of_lt hl)
  · rcases List.mem_cons.mp hq with rfl | hq
    · exact Nat.ne_of_lt hl
    · cases hq
def TellJ (d : Nat) (row : List (Array UInt8)) (m₀ : Str → Option Value) (nx₀ : List (Addr × Obj)) (_ : List Value) (j : Nat) (m : Str → Option Value) (nx : List (Addr × Obj)) : Prop :=
  ∃ x y C o o' rest v0 t, nx₀ = x :: y :: (C, o) :: rest ∧ nx = x :: y :: (C, o') :: rest ∧ o'.data = .cell v0 ∧ m (Str.ofString "told") = some (.bytes (toldTo d row j) t) ∧
    ∀ z, z ≠ Str.ofString "told" → z ≠ Str.ofString "leaf" → z ≠ Str.ofString "opens" → z ≠ Str.ofString "closes" → m z = m₀ z
theorem root_use {w : World} {mean : ExcName → Option Value} {mg mb : Str → Option Value}
    {dp un : Nat} {gd : Option (List Code)} {cn : Str} {cs : Scope} {a : Addr} {ccd : Value} {cl : List (Str × Addr)} {outer : List Env} {A₀ : Around} {base h₀ : Heap} {L : Addr} {m : Str → Option Value} {news : List (Addr × Obj)} {s : Shared} {Q E : Value → Shared → Prop}
    {l : Addr} {ws : List Value} {n : Nat} {bs : List (Array UInt8)}
    (B : Below A₀ base outer h₀) (F : Fr h₀ L s.heap m) (X : (hd.heap_39 w.params).In h₀) (N : News h₀ L s.heap news) (T : Top hd.view_39 (looseW hd.view_39 [Str.ofString "merkle"]) mean mg mb h₀) (hk : cs.kind = .function)
    (hl : (l, listOf ws.toArray n) ∈ news) (hb : BytesAre ws bs) (hS : Small bs) (h9 : bs.length ≤ 32) (h0 : 0 < bs.length) (hS9 : ∀ x ∈ bs, x.size ≤ 1000)
    (hdp : dp + 4 < recursionLimit) (hun : un + 80 < cLine)
    (hret : ∀ d t h' tk', (d = 0 ∨ 2 ^ (d - 1) < (fillF 6 1 bs).length) → (fillF 6 1 bs).length ≤ 2 ^ d → Fr h₀ L h' m → News h₀ L h' news → Q (.bytes (toldTo d (fillF 6 1 bs) (fillF 6 1 bs).length) t) { s with heap := h', toks := tk' }) :
    wpAny (model PySem.Challenge.rw_fw0034_01.row.prog w) (ktrTop dp un gd cn cs L a ccd cl outer) (call (.ref 97) [.ref l]) Q E s := by
  revert X
  k_fill
  intro X
  refine wpAny_call ?_
  k_dflt (walk_at "B enterC")
  have hC : ∀ p ∈ news, p.1 ≠ _ + 1 := fun p hp => Nat.ne_of_lt (Nat.lt_succ_of_lt ((by assumption : ∀ p ∈ news, p.1 < _) p hp))
  have hW : WhileWord (DepthJ bs) := .mk
  k_steps
  · (rename decide (bs = []) = true => hnil)
    have e := of_decide_eq_true hnil
    subst e
    exact absurd h0 (Nat.lt_irrefl _)
  · exact ⟨6, rfl, 0, _, rfl, .inl rfl, rfl, fun _ _ => rfl⟩
  · (rename WhileWord _ => wW)
    clear wW
    (rename BytesAre _ (fillF 6 1 bs) => bP)
    intro nn m₁ nx h tk hJ F1 N1
    obtain ⟨rfl, d, td, hdn, hdl, e1, e2⟩ := hJ
    have F2 := fr_one F1 e1 e2
    clear F1 e1 e2 m₁
    have hS2 : Small (fillF 6 1 bs) := fill_small h9 hS
    have hl2 : (fillF 6 1 bs).length ≤ 32 := fill_length h9 hS
    have hd6 : d ≤ 6 := by omega
    have hd0 : (0 : Int) ≤ (d : Int) := by omega
    have hd6' : (d : Int) ≤ 6 := by omega
    have hW2 : EnumWord (TellJ d (fillF 6 1 bs)) := .mk
    k_steps
    · (rename Fr _ _ _ _ => F9)
      (rename News _ _ _ _ => N9)
      (rename (2 : Int) ^ _ < _ => hlt)
      have hlt' := pow_nat hlt
      have hd5 : d ≤ 5 := by
        by_cases h : d ≤ 5
        · exact h
        · have := Nat.pow_le_pow_right (n := 2) (by decide) (show 6 ≤ d by omega)
          omega
      refine while_end F9 N9 ⟨nn - 1, ?_, rfl, d + 1, _, ?_, .inr hlt', rfl, ?_⟩
      · have := Nat.pow_le_pow_right (n := 2) (i := 5) (j := d) (by decide)
        by_cases h : d = 6
        · omega
        · omega
      · omega
      · intro z h1
        simp only [if_neg h1]
    · refine ⟨_, _, _, _, _, _, _, _, rfl, rfl, by assumption, rfl, fun _ _ _ _ _ => rfl⟩
    · (rename EnumWord _ => eW)
      clear eW
      intro I hI j v T t m₁ nx h tk oE oI hv hJ hmem hT F1 hE hI2 N1
      obtain ⟨x, y, C, o, o', rest, v0, tt, e0, rfl, hd, e1, e2⟩ := hJ
      have e0' := e0
      injection e0 with ex e0
      injection e0 with ey e0
      injection e0 with ez er
      injection ez with eC eo
      subst ex ey eC er
      have F2 := fr_told F1 e1 e2
      have aC := ne_cell N1 (.tail _ (.tail _ (.head _))) (.tail _ (.tail _ (.tail _ (.tail _ (.head _))))) hd
      have lC := ne_cell N1 (.tail _ (.tail _ (.tail _ (.head _)))) (.tail _ (.tail _ (.tail _ (.tail _ (.head _))))) hd
      have hI1 := ltN (hI _ (.head _))
      have hI3 := ltN (hI _ (.tail _ (.head _)))
      have hI4 := ltN (hI _ (.tail _ (.tail _ (.head _))))
      clear F1 e0'
      dsimp only at hI1 hI3 hI4
      obtain ⟨b, tb, hbj, rfl⟩ := bs_get bP hv
      have hs9 := fill_getD (n := 6) (sz := 1) hS9
      have hs8 := told_size d (fillF 6 1 bs) hs9 hd6 j
      have hs7 := hs9 j
      have ebj : (fillF 6 1 bs).getD j #[] = b := by rw [List.getD_eq_getElem?_getD, hbj]; rfl
      rw [ebj] at hs7
      have r1 := rep_size (cntF d j) 40
      have r2 := rep_size (cntF d (j + 1)) 41
      have hj : j < (fillF 6 1 bs).length := (List.getElem?_eq_some_iff.mp hbj).1
      have cW : CompWord (fun n ys => ys.length = cntF n j) := .mk
      k_steps
      · rfl
      · (rename CompWord _ => cW)
        clear cW
        intro i v2 I2 oI2 C2 oC2 D2 m₂ ys h2 tk2 E' hi hv2 hR hC2 hx F3 N3 off ne
        obtain ⟨t2, rfl⟩ := hv2
        simp only [LCg.Off3, and_true] at off
        k_steps
        · (rename Int.fmod _ _ = 0 => hz)
          exact (List.length_append ..).trans (cnt_yes hz hR)
        · (rename ¬ Int.fmod _ _ = 0 => hz)
          exact cnt_no hz hR
      · (rename CompWord _ => cW)
        clear cW
        intro ys hR
        rw [toNat_back] at hR
        have hop := cnt_le d j
        have cW : CompWord (fun n ys => ys.length = cntF n (j + 1)) := .mk
        k_steps
        · rfl
        · (rename CompWord _ => cW)
          clear cW
          intro i v2 I2 oI2 C2 oC2 D2 m₂ ys h2 tk2 E' hi hv2 hR hC2 hx F3 N3 off ne
          obtain ⟨t2, rfl⟩ := hv2
          simp only [LCg.Off3, and_true] at off
          k_steps
          · (rename Int.fmod _ _ = 0 => hz)
            exact (List.length_append ..).trans (cnt_yes hz hR)
          · (rename ¬ Int.fmod _ _ = 0 => hz)
            exact cnt_no hz hR
        · (rename CompWord _ => cW)
          clear cW
          intro ys2 hR2
          rw [toNat_back] at hR2
          have hcl := cnt_le d (j + 1)
          clear hs9 hS9
          k_steps
          (rename Fr _ _ _ _ => F9)
          (rename News _ _ _ _ => N9)
          (rename Obj.data _ = Data.cell (some (Value.int _ _)) => d9)
          have eT : toldTo d (fillF 6 1 bs) (j + 1) = toldTo d (fillF 6 1 bs) j ++ (rep (cntF d j) 40 ++ b ++ rep (cntF d (j + 1)) 41) := by
            rw [← ebj]
            rfl
          refine ⟨_, _, _, _, rfl, F9, fun p hp => N9 p (.tail _ (.tail _ hp)), ?_, .head _, ⟨_, _, _, _, _, _, _, _, rfl, rfl, d9, congrArg (fun x => some (Value.bytes x _)) eT.symm, ?_⟩⟩
          · exact told_off hI
          · intro z h1 h2 h3 h4
            simp only [if_neg h1, if_neg h2, if_neg h3, if_neg h4]
    · (rename EnumWord _ => eW)
      clear eW
      intro m₁ nx h tk hJ F1 N1
      obtain ⟨x, y, C, o, o', rest, v0, tt, e0, rfl, hd, e1, e2⟩ := hJ
      injection e0 with ex e0
      injection e0 with ey e0
      injection e0 with ez er
      injection ez with eC eo
      subst ex ey eC er
      rw [bP.length] at e1
      have F2 := fr_told F1 e1 e2
      clear F1
      k_steps
      (rename ¬ (2 : Int) ^ _ < _ => hge)
      (rename News _ _ _ _ => N9)
      exact hret d _ _ _ hdl (pow_not hge) (by k_asm) fun p hp => N9 p (.tail _ (.tail _ (.tail _ hp)))
end
section
/-- a map of bytes spread over arrays -/
def hom (f : UInt8 → Array UInt8) (x : Array UInt8) : Array UInt8 := (x.toList.flatMap fun c => (f c).toList).toArray
theorem hom_app (f : UInt8 → Array UInt8) (x y : Array UInt8) : hom f (x ++ y) = hom f x ++ hom f y := by
  simp [hom, List.flatMap_append]
theorem hom_nil (f : UInt8 → Array UInt8) : hom f #[] = #[] := rfl
theorem hom_one (f : UInt8 → Array UInt8) (c : UInt8) : hom f #[c] = f c := by simp [hom]
theorem hom_shown {f : UInt8 → Array UInt8} (h0 : f 40 = #[40]) (h1 : f 41 = #[41]) (x : Array UInt8) : hom f (shownB x) = shownB (hom f x) := by
  have e0 : hom f #[40] = #[40] := by rw [hom_one, h0]
  have e1 : hom f #[41] = #[41] := by rw [hom_one, h1]
  show hom f (#[40] ++ x ++ #[41]) = #[40] ++ hom f x ++ #[41]
  rw [hom_app, hom_app, e0, e1]
theorem hom_getD (f : UInt8 → Array UInt8) (row : List (Array UInt8)) (k : Nat) : hom f (row.getD k #[]) = (row.map (hom f)).getD k #[] := by
  rw [List.getD_eq_getElem?_getD, List.getD_eq_getElem?_getD, List.getElem?_map]
  cases row[k]? with
  | none => exact hom_nil f
  | some x => rfl
theorem hom_pair {f : UInt8 → Array UInt8} (h0 : f 40 = #[40]) (h1 : f 41 = #[41]) : ∀ (row : List (Array UInt8)), (pairF shownB row).map (hom f) = pairF shownB (row.map (hom f))
  | [] => rfl
  | [a] => by
    show [hom f (shownB (a ++ a))] = [shownB (hom f a ++ hom f a)]
    rw [hom_shown h0 h1, hom_app]
  | a :: b :: r => by
    show hom f (shownB (a ++ b)) :: (pairF shownB r).map (hom f) = shownB (hom f a ++ hom f b) :: pairF shownB (r.map (hom f))
    rw [hom_shown h0 h1, hom_app, hom_pair h0 h1 r]
theorem hom_mkF {f : UInt8 → Array UInt8} (h0 : f 40 = #[40]) (h1 : f 41 = #[41]) : ∀ (n : Nat) (row : List (Array UInt8)), hom f (mkF shownB n row) = mkF shownB n (row.map (hom f)) := by
  intro n
  induction n with
  | zero => intro row; exact hom_getD f row 0
  | succ n ih =>
    intro row
    show hom f (if row.length ≤ 1 then row.getD 0 #[] else mkF shownB n (pairF shownB row)) = if (row.map (hom f)).length ≤ 1 then (row.map (hom f)).getD 0 #[] else mkF shownB n (pairF shownB (row.map (hom f)))
    rw [List.length_map]
    split
    · exact hom_getD f row 0
    · rw [ih, hom_pair h0 h1]
theorem hom_mk {f : UInt8 → Array UInt8} (h0 : f 40 = #[40]) (h1 : f 41 = #[41]) (row : List (Array UInt8)) : hom f (mk shownB row) = mk shownB (row.map (hom f)) := by
  unfold mk
  rw [List.length_map]
  exact hom_mkF h0 h1 _ _
theorem hom_rep {f : UInt8 → Array UInt8} {c : UInt8} (h0 : f c = #[c]) (n : Nat) : hom f (rep n c) = rep n c := by
  unfold hom rep
  induction n with
  | zero => rfl
  | succ n ih =>
    have e : (List.replicate n c).flatMap (fun c => (f c).toList) = List.replicate n c := by
      have := congrArg Array.toList ih
      simpa using this
    simp [List.replicate_succ, h0, e]
theorem hom_told {f : UInt8 → Array UInt8} (h0 : f 40 = #[40]) (h1 : f 41 = #[41]) (d : Nat) (row : List (Array UInt8)) (k : Nat) : hom f (toldTo d row k) = toldTo d (row.map (hom f)) k := by
  induction k with
  | zero => rfl
  | succ k ih =>
    show hom f (toldTo d row k ++ (rep (cntF d k) 40 ++ row.getD k #[] ++ rep (cntF d (k + 1)) 41)) = toldTo d (row.map (hom f)) k ++ (rep (cntF d k) 40 ++ (row.map (hom f)).getD k #[] ++ rep (cntF d (k + 1)) 41)
    rw [hom_app, hom_app, hom_app, ih, hom_rep h0, hom_rep h1, hom_getD]
theorem hom_fill (f : UInt8 → Array UInt8) : ∀ (n sz : Nat) (row : List (Array UInt8)), (fillF n sz row).map (hom f) = fillF n sz (row.map (hom f)) := by
  intro n
  induction n with
  | zero => intro sz row; rfl
  | succ n ih =>
    intro sz row
    unfold fillF
    rw [List.length_map]
    split
    · rw [ih]
      congr 1
      split
      · rw [List.map_append, List.map_drop]
      · rfl
    · rfl
/-- rows of one known byte each -/
def stdRow (n : Nat) : List (Array UInt8) := (List.range n).map fun i => #[UInt8.ofNat (128 + i)]
def depOf (n : Nat) : Nat := if n ≤ 1 then 0 else if n ≤ 2 then 1 else if n ≤ 4 then 2 else if n ≤ 8 then 3 else if n ≤ 16 then 4 else 5
theorem std_told : ∀ n, n < 18 → 0 < n → toldTo (depOf (fillF 6 1 (stdRow n)).length) (fillF 6 1 (stdRow n)) (fillF 6 1 (stdRow n)).length = mk shownB (stdRow n) := by
  decide +kernel
theorem std_len : ∀ n, n < 18 → (fillF 6 1 (stdRow n)).length ≤ 32 := by decide +kernel
theorem dep_of {d n : Nat} (h : d = 0 ∨ 2 ^ (d - 1) < n) (h' : n ≤ 2 ^ d) (hn : n ≤ 32) (h0 : 0 < n) : d = depOf n := by
  have hd : d ≤ 5 := by
    by_cases q : d ≤ 5
    · exact q
    · have := Nat.pow_le_pow_right (n := 2) (by decide) (show 5 ≤ d - 1 by omega)
      omega
  unfold depOf
  have c : d = 0 ∨ d = 1 ∨ d = 2 ∨ d = 3 ∨ d = 4 ∨ d = 5 := by omega
  rcases c with rfl | rfl | rfl | rfl | rfl | rfl <;> simp at h h' <;> (repeat' split) <;> omega
theorem fill_pos : ∀ {n sz : Nat} {row : List (Array UInt8)}, 0 < row.length → (fillF n sz row).length ≠ 0 := by
  intro n
  induction n with
  | zero => intro _ _ h e; exact absurd e (Nat.ne_of_gt h)
  | succ n ih =>
    intro sz row h
    unfold fillF
    split
    · refine ih ?_
      split
      · rw [List.length_append]; omega
      · exact h
    · omega
/-- the leaves of the law: single small letters, at least one and at most seventeen -/
def Leaves (bs : List (Array UInt8)) : Prop := ∃ cs : List UInt8, bs = cs.map (fun c => #[c]) ∧ cs.length ≤ 17 ∧ ∀ c ∈ cs, 97 ≤ c.toNat ∧ c.toNat ≤ 113
theorem Leaves.len {bs : List (Array UInt8)} (h : Leaves bs) : bs.length ≤ 17 := by
  obtain ⟨cs, rfl, h, _⟩ := h
  rw [List.length_map]; exact h
theorem Leaves.one {bs : List (Array UInt8)} (h : Leaves bs) : ∀ x ∈ bs, x.size = 1 := by
  obtain ⟨cs, rfl, h, _⟩ := h
  intro x hx
  obtain ⟨c, _, rfl⟩ := List.mem_map.mp hx
  rfl
theorem std_map (bs : List (Array UInt8)) (h : bs.length ≤ 17) : (stdRow bs.length).map (hom fun c => if c.toNat < 128 then #[c] else bs.getD (c.toNat - 128) #[]) = bs := by
  apply List.ext_getElem
  · simp [stdRow]
  · intro i h1 h2
    have hi : i < bs.length := by simpa [stdRow] using h1
    have e1 : (UInt8.ofNat (128 + i)).toNat = 128 + i := by
      simp
      omega
    simp only [stdRow, List.map_map, List.getElem_map, List.getElem_range, Function.comp_apply, hom_one, e1]
    rw [if_neg (by omega), Nat.add_sub_cancel_left, List.getD_eq_getElem?_getD, List.getElem?_eq_getElem hi]
    rfl
theorem told_mk {bs : List (Array UInt8)} (hR : Leaves bs) (h0 : 0 < bs.length) {d : Nat} (hd : d = 0 ∨ 2 ^ (d - 1) < (fillF 6 1 bs).length) (hd' : (fillF 6 1 bs).length ≤ 2 ^ d) :
    toldTo d (fillF 6 1 bs) (fillF 6 1 bs).length = mk shownB bs := by
  have hl := hR.len
  have e := std_map bs hl
  generalize hf : (fun c : UInt8 => if c.toNat < 128 then #[c] else bs.getD (c.toNat - 128) #[]) = f at e
  have h40 : f 40 = #[40] := by rw [← hf]; rfl
  have h41 : f 41 = #[41] := by rw [← hf]; rfl
  have el : (fillF 6 1 bs).length = (fillF 6 1 (stdRow bs.length)).length := by
    conv => lhs; rw [← e]
    rw [← hom_fill, List.length_map]
  rw [el] at hd hd' ⊢
  have h32 := std_len bs.length (by omega)
  have hp : 0 < (fillF 6 1 (stdRow bs.length)).length := by
    by_cases q : 0 < (fillF 6 1 (stdRow bs.length)).length
    · exact q
    · exfalso
      have q' : (fillF 6 1 (stdRow bs.length)).length = 0 := by omega
      rw [q'] at hd
      rcases hd with rfl | h
      · exact (fill_pos (n := 6) (sz := 1) (row := stdRow bs.length) (by simpa [stdRow] using h0)) q'
      · exact Nat.not_lt_zero _ h
  rw [dep_of hd hd' h32 hp]
  have k := std_told bs.length (by omega) h0
  have k' := congrArg (hom f) k
  rw [hom_told h40 h41, hom_fill, hom_mk h40 h41, e] at k'
  exact k'
end
section
/-- a short row of short items -/
def Tame (bs : List (Array UInt8)) : Prop := bs.length ≤ 32 ∧ ∀ x ∈ bs, x.size ≤ 1000
theorem Tame.room {bs : List (Array UInt8)} (h : Tame bs) : Room 5 bs := ⟨h.1, by decide, fun x hx => Nat.le_trans (Nat.add_le_add_right (h.2 x hx) 32) (by decide)⟩
theorem Tame.small {bs : List (Array UInt8)} (h : Tame bs) : Small bs := ⟨Nat.le_trans h.1 (by decide), fun x hx => Nat.le_trans (h.2 x hx) (by decide)⟩
theorem tame_sub {bs cs : List (Array UInt8)} (h : Tame bs) (hl : cs.length ≤ 32) (hm : ∀ x ∈ cs, x ∈ bs) : Tame cs := ⟨hl, fun x hx => h.2 x (hm x hx)⟩
theorem tame_last {bs : List (Array UInt8)} {k : Nat} (h : Tame bs) (hl : bs.length ≤ 31) (hk : bs.length - k ≤ 1) : Tame (bs ++ bs.drop k) := by
  refine tame_sub h ?_ ?_
  · rw [List.length_append, List.length_drop]
    omega
  · intro x hx
    exact (List.mem_append.mp hx).elim id fun q => List.mem_of_mem_drop q
theorem Leaves.tame {bs : List (Array UInt8)} (h : Leaves bs) : Tame bs := ⟨Nat.le_trans h.len (by decide), fun x hx => by rw [h.one x hx]; decide⟩
section
variable {w : World} {mean : ExcName → Option Value} {mg mb : Str → Option Value}
    {dp un : Nat} {gd : Option (List Code)} {cn : Str} {cs : Scope} {a : Addr} {ccd : Value} {cl : List (Str × Addr)} {outer : List Env} {A₀ : Around} {base h₀ : Heap} {L : Addr} {m : Str → Option Value} {news : List (Addr × Obj)} {s : Shared} {Q E : Value → Shared → Prop}
    {l : Addr} {ws : List Value} {n : Nat} {bs : List (Array UInt8)}
theorem mk_85 (B : Below A₀ base outer h₀) (F : Fr h₀ L s.heap m) (X : (hd.heap_39 w.params).In h₀) (N : News h₀ L s.heap news) (T : Top hd.view_39 (looseW hd.view_39 [Str.ofString "merkle"]) mean mg mb h₀) (hk : cs.kind = .function)
    (hl : (l, listOf ws.toArray n) ∈ news) (hb : BytesAre ws bs) (hR : Tame bs) (h0 : 0 < bs.length)
    (hdp : dp + 8 < recursionLimit) (hun : un + 64 < cLine)
    (hret : ∀ t h' tk', Fr h₀ L h' m → News h₀ L h' news → Q (.bytes (mk shownB bs) t) { s with heap := h', toks := tk' }) :
    wpAny (model PySem.Challenge.rw_fw0034_01.row.prog w) (ktrTop dp un gd cn cs L a ccd cl outer) (call (.ref 71) [.ref l, .ref 85]) Q E s :=
  merkle_85 B F X N T hk hl hb hR.room h0 hdp hun hret
theorem mk_63 (B : Below A₀ base outer h₀) (F : Fr h₀ L s.heap m) (X : (hd.heap_39 w.params).In h₀) (N : News h₀ L s.heap news) (T : Top hd.view_39 (looseW hd.view_39 [Str.ofString "merkle"]) mean mg mb h₀) (hk : cs.kind = .function)
    (hl : (l, listOf ws.toArray n) ∈ news) (hb : BytesAre ws bs) (hR : Tame bs) (h0 : 0 < bs.length)
    (hdp : dp + 8 < recursionLimit) (hun : un + 64 < cLine)
    (hret : ∀ t h' tk', Fr h₀ L h' m → News h₀ L h' news → Q (.bytes (mk dshaB bs) t) { s with heap := h', toks := tk' }) :
    wpAny (model PySem.Challenge.rw_fw0034_01.row.prog w) (ktrTop dp un gd cn cs L a ccd cl outer) (call (.ref 71) [.ref l]) Q E s :=
  merkle_63 B F X N T hk hl hb hR.room h0 hdp hun hret
theorem root_mk (B : Below A₀ base outer h₀) (F : Fr h₀ L s.heap m) (X : (hd.heap_39 w.params).In h₀) (N : News h₀ L s.heap news) (T : Top hd.view_39 (looseW hd.view_39 [Str.ofString "merkle"]) mean mg mb h₀) (hk : cs.kind = .function)
    (hl : (l, listOf ws.toArray n) ∈ news) (hb : BytesAre ws bs) (hR : Leaves bs) (h0 : 0 < bs.length)
    (hdp : dp + 4 < recursionLimit) (hun : un + 80 < cLine)
    (hret : ∀ t h' tk', Fr h₀ L h' m → News h₀ L h' news → Q (.bytes (mk shownB bs) t) { s with heap := h', toks := tk' }) :
    wpAny (model PySem.Challenge.rw_fw0034_01.row.prog w) (ktrTop dp un gd cn cs L a ccd cl outer) (call (.ref 97) [.ref l]) Q E s := by
  refine root_use B F X N T hk hl hb hR.tame.small hR.tame.1 h0 hR.tame.2 hdp hun fun d t h' tk' hd hd' F' N' => ?_
  rw [told_mk hR h0 hd hd']
  exact hret t h' tk' F' N'
end
end
section
def LeafWord (n : Nat) (ys : List Value) : Prop := ∃ cs : List UInt8, BytesAre ys (cs.map fun c => #[c]) ∧ cs.length = n ∧ ∀ c ∈ cs, 97 ≤ c.toNat ∧ c.toNat ≤ 113
theorem size_back {x : Int} {n : Nat} (h : n = (x - 0).toNat) (h0 : 0 ≤ x) : x = ((n : Nat) : Int) := by omega
def PairWord (bs : List (Array UInt8)) (n : Nat) (ys : List Value) : Prop := BytesAre ys ((pairF shownB bs).take ((n + 1) / 2))
theorem bs_snoc {b : Array UInt8} {t : Tok} : ∀ {ys : List Value} {bs : List (Array UInt8)}, BytesAre ys bs → BytesAre (ys ++ [.bytes b t]) (bs ++ [b])
  | _, _, .nil => .cons b t .nil
  | _, _, .cons x u r => .cons x u (bs_snoc r)
theorem letter_mod (x : Int) : 0 ≤ 97 + Int.fmod x 5 ∧ 97 + Int.fmod x 5 < 256 := by
  have h1 := fmod_lo x (n := 5) (by decide)
  have h2 := fmod_hi x (n := 5) (by decide)
  omega
theorem letter_mod' (x : Int) : 97 ≤ 97 + Int.fmod x 5 ∧ 97 + Int.fmod x 5 ≤ 113 := by
  have h1 := fmod_lo x (n := 5) (by decide)
  have h2 := fmod_hi x (n := 5) (by decide)
  omega
theorem leaf_more {i : Nat} {ys : List Value} {v : Int} {t : Tok} (h : LeafWord i ys) (hv : 97 ≤ v ∧ v ≤ 113) : LeafWord (i + 1) (ys ++ [.bytes #[v.toNat.toUInt8] t]) := by
  obtain ⟨cs, hB, hl, hc⟩ := h
  refine ⟨cs ++ [v.toNat.toUInt8], ?_, by rw [List.length_append, hl]; rfl, fun c hc' => ?_⟩
  · rw [List.map_append]
    exact bs_snoc hB
  · rcases List.mem_append.mp hc' with h | h
    · exact hc c h
    · rw [List.mem_singleton.mp h]
      show 97 ≤ v.toNat % 256 ∧ v.toNat % 256 ≤ 113
      omega
section
variable {prog : Program} {w : World} {A : Around} {E : Value → Shared → Prop} {s : Shared} {env : Env} {h₀ : Heap} {L : Addr} {m : Str → Option Value} {news : List (Addr × Obj)}
theorem b_bytes1 {l : Addr} {v : Int} {t : Tok} {n : Nat} {Q : Value → Shared → Prop} (F : Fr h₀ L s.heap m) (N : News h₀ L s.heap news) (hm : (l, listOf #[.int v t] n) ∈ news) (h0 : 0 ≤ v ∧ v < 256) (hh : A.handled = none)
    (h : ∀ h' t' k, Fr h₀ L h' m → News h₀ L h' news → Q (.bytes #[v.toNat.toUInt8] t') { s with heap := h', toks := k }) : wpAny (model prog w) A (call (.type "bytes") [.ref l]) Q E s :=
  bytes_K (vs := [.int v t]) (ns := [v]) F N (N.isList hm) (.cons v t .nil) (fun n hn => by rw [List.mem_singleton.mp hn]; exact h0) (by rw [sizeLine_eq]; exact Nat.le_of_ble_eq_true rfl) hh fun h' t' k F' N' _ => h h' t' k F' N'
structure Stay (P : Prop) : Prop where
  at_ : P
/-- says that an if which only returns is walked by its test alone, and that its test is false -/
structure GuardWord : Prop where
def GuardEnd (h₀ : Heap) (L : Addr) (m : Str → Option Value) (news : List (Addr × Obj)) (s : Shared) (b : Bool) (s' : Shared) : Prop :=
  b = false ∧ ∃ h tk, s' = { s with heap := h, toks := tk } ∧ Fr h₀ L h m ∧ News h₀ L h news
theorem b_guard {test : Expr} {body : List Stmt} {pos : Pos} {Q : Flow → Shared → Prop} (_W : GuardWord) (F : Fr h₀ L s.heap m) (N : News h₀ L s.heap news)
    (hc : wpAny (model prog w) A (isTrue test env (eval test env)) (fun b s' => GuardEnd h₀ L m news s b s') E s)
    (hk : ∀ h tk, Fr h₀ L h m → News h₀ L h news → Q .next { s with heap := h, toks := tk }) : wpAny (model prog w) A (exec (.If test body [] pos) env) Q E s := by
  refine wpAny_If (wpAny_mono hc (fun b s₂ hb => ?_) fun _ _ h => h)
  obtain ⟨rfl, h, tk, rfl, F', N'⟩ := hb
  exact wpAny_execs_nil (hk h tk F' N')
theorem guard_end {s : Shared} {h' : Heap} {tk : Nat} {b : Bool} {all : List (Addr × Obj)} (hb : Stay (b = false)) (F : Fr h₀ L h' m) (N : News h₀ L h' all) (sub : ∀ p ∈ news, p ∈ all) : GuardEnd h₀ L m news s b { s with heap := h', toks := tk } :=
  ⟨hb.at_, h', tk, rfl, F, fun p hp => N p (sub p hp)⟩
end
theorem place_fact {vs : List Value} {ns : List Int} (_h : IntsAre vs ns) (k : Nat) {n : Nat} (hn : 1 ≤ n) : 0 ≤ Int.fmod (ns.getD k 0) ((n : Nat) : Int) ∧ Int.fmod (ns.getD k 0) ((n : Nat) : Int) < ((n : Nat) : Int) :=
  ⟨fmod_lo _ (by omega), fmod_hi _ (by omega)⟩
theorem tame_turned {bs : List (Array UInt8)} {k k' : Nat} (h : Tame bs) (h17 : bs.length ≤ 17) (hk : k < k') : Tame (bs.take k ++ [#[90]] ++ bs.drop k') := by
  refine ⟨?_, fun x hx => ?_⟩
  · simp only [List.length_append, List.length_take, List.length_drop, List.length_cons, List.length_nil]
    omega
  · rcases List.mem_append.mp hx with hx | hx
    · rcases List.mem_append.mp hx with hx | hx
      · exact h.2 x (List.mem_of_mem_take hx)
      · rw [List.mem_singleton.mp hx]; decide
    · exact h.2 x (List.mem_of_mem_drop hx)
theorem tame_getD {bs : List (Array UInt8)} (h : Tame bs) (k : Nat) : (bs.getD k #[]).size ≤ 1000 := by
  rw [List.getD_eq_getElem?_getD]
  cases e : bs[k]? with
  | none => exact Nat.zero_le _
  | some x => exact h.2 x (List.mem_of_getElem? e)
theorem tame_swapped {bs : List (Array UInt8)} {i j a b : Nat} (h : Tame bs) : Tame ((bs.set i (bs.getD a #[])).set j (bs.getD b #[])) := by
  refine ⟨by rw [List.length_set, List.length_set]; exact h.1, fun x hx => ?_⟩
  rcases List.mem_or_eq_of_mem_set hx with hx | rfl
  · rcases List.mem_or_eq_of_mem_set hx with hx | rfl
    · exact h.2 x hx
    · exact tame_getD h a
  · exact tame_getD h b
def HashWord (bs : List (Array UInt8)) (n : Nat) (ys : List Value) : Prop := BytesAre ys ((bs.map shaB).take n)
end
section
def swapF (c x : UInt8) : Array UInt8 := if x = 90 then #[c] else #[x]
open Builtin.Bytes in
theorem joined_snoc (sep : Array UInt8) (l : List (Array UInt8)) (x : Array UInt8) : joined sep (l ++ [x]) = (if 0 < l.length then joined sep l ++ sep else joined sep l) ++ x := by
  unfold joined
  rw [List.zipIdx_append, List.foldl_append]
  simp only [List.zipIdx_cons, List.zipIdx_nil, List.foldl_cons, List.foldl_nil, Nat.zero_add, gt_iff_lt]
open Builtin.Bytes in
theorem joined_grow (sep : Array UInt8) (l : List (Array UInt8)) (x y : Array UInt8) : joined sep (l ++ [x ++ y]) = joined sep (l ++ [x]) ++ y := by
  rw [joined_snoc, joined_snoc, Array.append_assoc]
theorem ext_one {b : Array UInt8} {last n : Nat} (hl : last ≤ n) (hn : n < b.size) : b.extract last (n + 1) = b.extract last n ++ #[b[n]] := by
  rw [← Array.toList_inj]
  simp only [Array.toList_extract, Array.toList_append]
  apply List.ext_getElem?
  intro i
  simp [List.getElem?_append]
  grind
theorem ext_none (b : Array UInt8) (n : Nat) : b.extract n n = #[] := Array.eq_empty_of_size_eq_zero (by rw [Array.size_extract]; omega)
theorem ext_here {b : Array UInt8} {n : Nat} (hn : n < b.size) : b.extract n (n + 1) = #[b[n]] := by
  rw [ext_one (Nat.le_refl n) hn, ext_none, Array.empty_append]
def holes (b : Array UInt8) (n : Nat) : List Nat := (List.range n).filter fun i => b.extract i (i + 1) == #[90]
open Builtin.Bytes in
theorem occ_holes (b : Array UInt8) : occurrences b #[90] 0 b.size = holes b b.size := by
  unfold occurrences holes
  have e : b.size + 1 - (0 + (#[90] : Array UInt8).size) = b.size := by simp
  rw [e]
  have key : ∀ n, ∃ last, last ≤ n ∧ ((List.range n).map (· + 0)).foldl (fun (acc : List Nat × Nat) (i : Nat) => if (decide (i ≥ acc.2) && b.extract i (i + (#[90] : Array UInt8).size) == #[90]) = true then (i :: acc.1, i + (#[90] : Array UInt8).size) else acc) ([], 0) = (((List.range n).filter fun i => b.extract i (i + 1) == #[90]).reverse, last) := by
    intro n
    induction n with
    | zero => exact ⟨0, Nat.le_refl _, rfl⟩
    | succ n ih =>
      obtain ⟨last, hl, e⟩ := ih
      rw [List.range_succ, List.map_append, List.foldl_append, e, List.filter_append, List.reverse_append]
      by_cases h : (b.extract n (n + 1) == #[90]) = true
      · refine ⟨n + 1, Nat.le_refl _, ?_⟩
        have h' : b.extract n (n + 1) = #[90] := by simpa using h
        simp [h', hl]
      · refine ⟨last, Nat.le_succ_of_le hl, ?_⟩
        have h' : ¬ b.extract n (n + 1) = #[90] := by simpa using h
        simp [h']
  obtain ⟨last, _, e⟩ := key b.size
  simp only [] at e ⊢
  rw [e]
  exact List.reverse_reverse _
open Builtin.Bytes in
theorem repl_text (b : Array UInt8) (c : UInt8) : joined #[c] (between b 1 (holes b b.size)) = hom (swapF c) b := by
  have key : ∀ n, n ≤ b.size → ∃ parts last, last ≤ n ∧ (holes b n).foldl (fun (q : Array (Array UInt8) × Nat) p => (q.1.push (b.extract q.2 p), p + 1)) ((#[] : Array (Array UInt8)), 0) = (parts, last) ∧ joined #[c] (parts.toList ++ [b.extract last n]) = hom (swapF c) (b.extract 0 n) := by
    intro n
    induction n with
    | zero => intro _; exact ⟨#[], 0, Nat.le_refl _, rfl, by simp [joined, hom]⟩
    | succ n ih =>
      intro hn
      obtain ⟨parts, last, hl, e, ej⟩ := ih (by omega)
      have hlt : n < b.size := by omega
      have eh : holes b (n + 1) = holes b n ++ (if (b.extract n (n + 1) == #[90]) = true then [n] else []) := by
        unfold holes
        rw [List.range_succ, List.filter_append]
        congr 1
        by_cases h : (b.extract n (n + 1) == #[90]) = true <;> simp [h]
      have e0 := ext_one (b := b) (Nat.zero_le n) hlt
      by_cases h : (b.extract n (n + 1) == #[90]) = true
      · refine ⟨parts.push (b.extract last n), n + 1, Nat.le_refl _, ?_, ?_⟩
        · rw [eh, if_pos h, List.foldl_append, e]
          rfl
        · have hb : b[n] = 90 := by
            rw [ext_here hlt] at h
            simpa using h
          rw [e0, hom_app, hom_one, hb, show swapF c 90 = #[c] from rfl, ← ej, Array.toList_push, joined_snoc, if_pos (by simp)]
          rw [ext_none, Array.append_empty]
      · refine ⟨parts, last, Nat.le_succ_of_le hl, ?_, ?_⟩
        · rw [eh, if_neg h, List.append_nil, e]
        · have hb : ¬ b[n] = 90 := by
            rw [ext_here hlt] at h
            simpa using h
          rw [e0, hom_app, hom_one, show swapF c b[n] = #[b[n]] from if_neg hb, ext_one hl hlt, joined_grow, ej]
  obtain ⟨parts, last, _, e, ej⟩ := key b.size (Nat.le_refl _)
  have e2 : between b 1 (holes b b.size) = parts.toList ++ [b.extract last b.size] := by
    unfold between
    simp only [] at e ⊢
    rw [e]
    simp
  rw [e2, ej]
  simp
theorem repl_none {b : Array UInt8} {c : UInt8} (h : holes b b.size = []) : hom (swapF c) b = b := by
  rw [← repl_text, h]
  show Builtin.Bytes.joined #[c] (((#[] : Array (Array UInt8)).push (b.extract 0 b.size)).toList) = b
  simp [Builtin.Bytes.joined]
theorem hom_len {f : UInt8 → Array UInt8} (h : ∀ c, (f c).size = 1) (b : Array UInt8) : (hom f b).size = b.size := by
  unfold hom
  rw [List.size_toArray, List.length_flatMap]
  have e : ∀ l : List UInt8, (l.map fun c => (f c).toList.length).sum = l.length := by
    intro l
    induction l with
    | nil => rfl
    | cons c l ih => rw [List.map_cons, List.sum_cons, ih, List.length_cons, Array.length_toList, h]; omega
  rw [e]
  exact Array.length_toList
theorem swap_len (c : UInt8) (b : Array UInt8) : (hom (swapF c) b).size = b.size := hom_len (fun x => by unfold swapF; split <;> rfl) b
theorem rp_slot : Slot "bytes" "replace" "bytes.replace" :=
  .of (owner := "bytes") (n := "replace") (by rw [typeLookup_type, builtinLookup_eq_fast]; with_unfolding_all rfl) (by decide +kernel) (by decide +kernel) (by decide +kernel)
    (by first | exact .inl (by decide +kernel) | exact .inr (by decide +kernel)) (by rw [isSubtype_type]; with_unfolding_all rfl)
theorem rp_entry : entryFor table "bytes.replace" = some Builtin.«bytes.replace» := entryFor_of_fast (by with_unfolding_all rfl)
theorem rp_args (a b c : Value) : argsOk "bytes.replace" ⟨[a, b, c], []⟩ := by unfold argsOk; with_unfolding_all rfl
theorem one_eq {x : Array UInt8} (h : x.size = 1) : x = #[x.getD 0 0] := by
  apply Array.ext
  · rw [h]; rfl
  · intro i h1 h2
    have e : i = 0 := by omega
    subst e
    simp [Array.getD, h]
theorem b_replace {prog : Program} {w : World} {A : Around} {E : Value → Shared → Prop} {s : Shared} {Q : Value → Shared → Prop} {b x : Array UInt8} {t u v : Tok} (hx : x.size = 1) (hz : b.size ≤ 1000000)
    (h : ∀ t' k, Q (.bytes (hom (swapF (x.getD 0 0)) b) t') { s with toks := k }) :
    wpAny (model prog w) A (call (.builtin "bytes.replace") [.bytes b t, .bytes #[90] u, .bytes x v]) Q E s := by
  rw [one_eq hx]
  have e0 : (#[x.getD 0 0] : Array UInt8).getD 0 0 = x.getD 0 0 := rfl
  generalize x.getD 0 0 = c at *
  refine wpAny_call_entry rp_slot (typeIs_bytes s b t) rp_entry ?_ (rp_args _ _ _)
  show wpAny _ _ (PySem.selfAndSome "bytes.replace" "replace" 2 3 ⟨[.bytes b t, .bytes #[90] u, .bytes #[c] v], []⟩ >>= fun r => _) _ _ s
  refine wpAny_bind (wpAny_of_eq (a := (.bytes b t, [.bytes #[90] u, .bytes #[c] v])) (by with_unfolding_all rfl) ?_)
  show wpAny _ _ (Builtin.Bytes.bytesLike _ (.bytes #[90] u) >>= fun r => _) _ _ s
  refine wpAny_bind (wpAny_of_eq KBd.like_eq ?_)
  show wpAny _ _ (Builtin.Bytes.bytesLike _ (.bytes #[c] v) >>= fun r => _) _ _ s
  refine wpAny_bind (wpAny_of_eq KBd.like_eq ?_)
  refine wpAny_bind (wpAny_of_eq (a := (-1 : Int)) rfl ?_)
  show wpAny _ _ (Builtin.Bytes.bytesLike _ (.bytes #[90] u) >>= fun r => _) _ _ s
  refine wpAny_bind (wpAny_of_eq KBd.like_eq ?_)
  show wpAny _ _ (Builtin.Bytes.bytesLike _ (.bytes #[c] v) >>= fun r => _) _ _ s
  refine wpAny_bind (wpAny_of_eq KBd.like_eq ?_)
  show wpAny _ _ (Builtin.Bytes.payload (.bytes b t) >>= fun r => _) _ _ s
  refine wpAny_bind (wpAny_of_eq (a := b) rfl ?_)
  show wpAny _ _ (if ((Builtin.Bytes.occurrences b #[90] 0 b.size).isEmpty || ((#[90] : Array UInt8).isEmpty && (#[c] : Array UInt8).isEmpty)) = true then _ else _) _ _ s
  have hlen : (holes b b.size).length ≤ b.size := Nat.le_trans (List.length_filter_le _ _) (by rw [List.length_range]; exact Nat.le_refl _)
  have htext := repl_text b c
  have hsl := swap_len c b
  by_cases hh : holes b b.size = []
  · have hn := repl_none (b := b) (c := c) hh
    rw [if_pos (by rw [occ_holes, hh]; rfl)]
    show wpAny _ _ (rule _ >>= fun _ => Builtin.Bytes.Kind.bytes.same (.bytes b t) >>= fun v => ret v) _ _ s
    refine wpAny_bind (wpAny_rule ?_)
    refine wpAny_bind ?_
    show wpAny _ _ (typeOf (.bytes b t) >>= fun r => _) _ _ s
    refine wpAny_bind (wpAny_typeOf (typeIs_bytes s b t) ?_)
    have h' := h t s.toks
    rw [hn] at h'
    exact wpAny_pure (wpAny_pure ⟨_, rfl, h'⟩)
  · rw [if_neg (by
      rw [occ_holes]
      intro q
      have q' : (holes b b.size).isEmpty = true := by simpa using q
      exact hh (List.isEmpty_iff.mp q'))]
    show wpAny _ _ (if Builtin.Bytes.tooLong (b.size + (Builtin.Bytes.occurrences b #[90] 0 b.size).length * (#[c] : Array UInt8).size) = true then _ else _) _ _ s
    rw [if_neg (by
      rw [KBy.tooLong_not (by
        rw [occ_holes]
        show b.size + (holes b b.size).length * 1 ≤ 16777216
        omega)]
      exact Bool.false_ne_true)]
    show wpAny _ _ (mkBytes (Builtin.Bytes.joined #[c] (Builtin.Bytes.between b 1 (Builtin.Bytes.occurrences b #[90] 0 b.size))) >>= fun v => ret v) _ _ s
    rw [occ_holes, htext]
    exact wpAny_bind (wpAny_mkBytes (wpAny_pure ⟨_, rfl, h _ _⟩) (by rw [hsl, sizeLine_eq]; omega))
end
section
theorem leaf_one {bs : List (Array UInt8)} (h : Leaves bs) {k : Nat} (hk : k < bs.length) : (bs.getD k #[]).size = 1 := by
  rw [List.getD_eq_getElem?_getD, List.getElem?_eq_getElem hk]
  exact h.one _ (List.getElem_mem hk)
theorem room_mk {g : Array UInt8 → Array UInt8} (hg : ∀ x, (g x).size ≤ x.size + 32) : ∀ (n j : Nat) (hs : List (Array UInt8)), hs.length ≤ n → Room j hs → (mk g hs).size ≤ 600000 := by
  intro n
  induction n with
  | zero =>
    intro j hs hn hR
    rw [mk_one _ _ (by omega), List.getD_eq_getElem?_getD, List.getElem?_eq_none (by omega)]
    exact Nat.zero_le _
  | succ n ih =>
    intro j hs hn hR
    by_cases h1 : 1 < hs.length
    · rw [mk_more _ _ h1]
      exact ih (j - 1) _ (by rw [pairF_length]; omega) (room_pair hg hR h1)
    · rw [mk_one _ _ (by omega), List.getD_eq_getElem?_getD]
      cases e : hs[0]? with
      | none => exact Nat.zero_le _
      | some x =>
        have h3 := hR.2.2 x (List.mem_of_getElem? e)
        have h4 : (2 : Nat) ^ (19 - j) ≤ 2 ^ 19 := Nat.pow_le_pow_right (by decide) (by omega)
        have h5 : (2 : Nat) ^ 19 = 524288 := by decide
        show x.size ≤ 600000
        omega
theorem mk_size {bs : List (Array UInt8)} (h : Tame bs) : (mk shownB bs).size ≤ 1000000 := Nat.le_trans (room_mk shownB_size _ 5 bs (Nat.le_refl _) h.room) (by decide)
end
section
theorem shown_inj {x y : Array UInt8} (h : shownB x = shownB y) : x = y := by
  have h' := congrArg Array.toList h
  unfold shownB at h'
  simp at h'
  exact Array.toList_inj.mp (by simpa using h')
theorem app_inj {a b c d : Array UInt8} (hs : a.size = c.size) (h : a ++ b = c ++ d) : a = c ∧ b = d := by
  have h' := congrArg Array.toList h
  rw [Array.toList_append, Array.toList_append] at h'
  obtain ⟨h1, h2⟩ := List.append_inj h' (by simpa using hs)
  exact ⟨Array.toList_inj.mp h1, Array.toList_inj.mp h2⟩
theorem pairF_inj {k : Nat} : ∀ (as bs : List (Array UInt8)), as.length = bs.length → (∀ x ∈ as, x.size = k) → (∀ x ∈ bs, x.size = k) → pairF shownB as = pairF shownB bs → as = bs
  | [], [], _, _, _, _ => rfl
  | [], _ :: _, h, _, _, _ => by simp at h
  | _ :: _, [], h, _, _, _ => by simp at h
  | [a], [b], _, ha, hb, e => by
    have e1 : shownB (a ++ a) = shownB (b ++ b) := by injection e
    rw [(app_inj (by rw [ha a (.head _), hb b (.head _)]) (shown_inj e1)).1]
  | [_], _ :: _ :: _, h, _, _, _ => by simp at h
  | _ :: _ :: _, [_], h, _, _, _ => by simp at h
  | a :: a2 :: as, b :: b2 :: bs, h, ha, hb, e => by
    have e1 : shownB (a ++ a2) = shownB (b ++ b2) := by injection e
    have e2 : pairF shownB as = pairF shownB bs := by injection e
    obtain ⟨q1, q2⟩ := app_inj (by rw [ha a (.head _), hb b (.head _)]) (shown_inj e1)
    rw [q1, q2, pairF_inj as bs (by simpa using h) (fun x hx => ha x (.tail _ (.tail _ hx))) (fun x hx => hb x (.tail _ (.tail _ hx))) e2]
theorem shown_sz (x : Array UInt8) : (shownB x).size = x.size + 2 := by
  unfold shownB
  simp only [Array.size_append, List.size_toArray, List.length_cons, List.length_nil]
  omega
theorem pairF_sz {k : Nat} : ∀ (as : List (Array UInt8)), (∀ x ∈ as, x.size = k) → ∀ x ∈ pairF shownB as, x.size = k + k + 2
  | [], _, x, hx => nomatch hx
  | [a], h, x, hx => by
    rw [List.mem_singleton.mp hx, shown_sz, Array.size_append, h a (.head _)]
  | a :: b :: r, h, x, hx => by
    rcases List.mem_cons.mp hx with e | hx
    · rw [e, shown_sz, Array.size_append, h a (.head _), h b (.tail _ (.head _))]
    · exact pairF_sz r (fun y hy => h y (.tail _ (.tail _ hy))) x hx
theorem mk_inj : ∀ (n k : Nat) (as bs : List (Array UInt8)), as.length ≤ n → as.length = bs.length → (∀ x ∈ as, x.size = k) → (∀ x ∈ bs, x.size = k) → mk shownB as = mk shownB bs → as = bs := by
  intro n
  induction n with
  | zero =>
    intro k as bs hn hl _ _ _
    rw [List.eq_nil_of_length_eq_zero (by omega : as.length = 0), List.eq_nil_of_length_eq_zero (by omega : bs.length = 0)]
  | succ n ih =>
    intro k as bs hn hl ha hb e
    by_cases h1 : 1 < as.length
    · rw [mk_more _ _ h1, mk_more _ bs (by omega)] at e
      refine pairF_inj as bs hl ha hb (ih (k + k + 2) _ _ ?_ ?_ (pairF_sz as ha) (pairF_sz bs hb) e)
      · rw [pairF_length]; omega
      · rw [pairF_length, pairF_length, hl]
    · rw [mk_one _ _ (by omega), mk_one _ bs (by omega)] at e
      match as, bs, hl, h1 with
      | [], [], _, _ => rfl
      | [a], [b], _, _ =>
        have e' : a = b := e
        rw [e']
      | _ :: _ :: _, _, _, h1 => simp at h1
      | [_], [], hl, _ => simp at hl
      | [], _ :: _, hl, _ => simp at hl
      | [_], _ :: _ :: _, hl, _ => simp at hl
theorem mk_twice {g : Array UInt8 → Array UInt8} {bs : List (Array UInt8)} (ho : bs.length % 2 = 1) (h1 : 1 < bs.length) {k : Nat} (hk : k = bs.length - 1) : mk g (bs ++ bs.drop k) = mk g bs := by
  have e : bs.drop k = [bs.getD (2 * (bs.length / 2)) #[]] := by
    have hk' : k = 2 * (bs.length / 2) := by omega
    rw [← hk', List.getD_eq_getElem?_getD, List.getElem?_eq_getElem (by omega), List.drop_eq_getElem_cons (by omega), List.drop_eq_nil_of_le (by omega)]
    rfl
  rw [e, mk_more _ (bs ++ _) (by rw [List.length_append]; omega), mk_more _ bs h1, pairF_odd g (bs.length / 2) bs _ (by omega) rfl]
theorem Leaves.get {bs : List (Array UInt8)} (h : Leaves bs) {p : Nat} (hp : p < bs.length) : ∃ c : UInt8, bs.getD p #[] = #[c] ∧ 97 ≤ c.toNat ∧ c.toNat ≤ 113 := by
  obtain ⟨cs, rfl, _, hc⟩ := h
  rw [List.length_map] at hp
  refine ⟨cs[p], ?_, hc _ (List.getElem_mem hp)⟩
  rw [List.getD_eq_getElem?_getD, List.getElem?_map, List.getElem?_eq_getElem hp]
  rfl
theorem turned_get {bs : List (Array UInt8)} {p : Nat} (hp : p < bs.length) (z : Array UInt8) : bs.take p ++ [z] ++ bs.drop (p + 1) = bs.set p z := by
  rw [List.set_eq_take_append_cons_drop, if_pos hp]
  simp
theorem set_sizes {bs : List (Array UInt8)} {p k : Nat} {z : Array UInt8} (h : ∀ x ∈ bs, x.size = k) (hz : z.size = k) : ∀ x ∈ bs.set p z, x.size = k := by
  intro x hx
  rcases List.mem_or_eq_of_mem_set hx with hx | rfl
  · exact h x hx
  · exact hz
theorem turned_ne {bs : List (Array UInt8)} (h : Leaves bs) {p : Nat} (hp : p < bs.length) : mk shownB (bs.take p ++ [#[90]] ++ bs.drop (p + 1)) ≠ mk shownB bs := by
  intro e
  rw [turned_get hp] at e
  have q := mk_inj _ 1 _ _ (Nat.le_refl _) (by rw [List.length_set]) (set_sizes h.one rfl) h.one e
  obtain ⟨c, hc, h1, _⟩ := h.get hp
  have q2 : (bs.set p #[90]).getD p #[] = #[c] := by rw [q, hc]
  rw [List.getD_eq_getElem?_getD, List.getElem?_set_self hp] at q2
  have q3 : (90 : UInt8) = c := by
    have : #[(90 : UInt8)] = #[c] := q2
    simpa using this
  rw [← q3] at h1
  exact absurd h1 (by decide)
theorem turned_back {bs : List (Array UInt8)} (h : Leaves bs) {p : Nat} (hp : p < bs.length) {c : UInt8} (hc : bs.getD p #[] = #[c]) : hom (swapF c) (mk shownB (bs.take p ++ [#[90]] ++ bs.drop (p + 1))) = mk shownB bs := by
  rw [hom_mk rfl rfl, turned_get hp]
  congr 1
  rw [List.map_set]
  have e : bs.map (hom (swapF c)) = bs := by
    obtain ⟨cs, rfl, _, hcs⟩ := h
    rw [List.map_map]
    apply List.map_congr_left
    intro x hx
    have h1 := (hcs x hx).1
    show hom (swapF c) #[x] = #[x]
    rw [hom_one]
    unfold swapF
    rw [if_neg]
    intro e
    rw [e] at h1
    exact absurd h1 (by decide)
  rw [e, hom_one]
  have e2 : swapF c 90 = bs.getD p #[] := by rw [hc]; rfl
  rw [e2, List.getD_eq_getElem?_getD, List.getElem?_eq_getElem hp]
  exact List.set_getElem_self hp
theorem swapped_iff {bs : List (Array UInt8)} (h : Leaves bs) {p q : Nat} (hp : p < bs.length) (hq : q < bs.length) :
    mk shownB ((bs.set p (bs.getD q #[])).set q (bs.getD p #[])) = mk shownB bs ↔ bs.getD p #[] = bs.getD q #[] := by
  obtain ⟨c, hc, _⟩ := h.get hp
  obtain ⟨d, hd, _⟩ := h.get hq
  constructor
  · intro e
    have z := mk_inj _ 1 _ _ (Nat.le_refl _) (by rw [List.length_set, List.length_set]) (set_sizes (set_sizes h.one (by rw [hd]; rfl)) (by rw [hc]; rfl)) h.one e
    have z2 : ((bs.set p (bs.getD q #[])).set q (bs.getD p #[])).getD q #[] = bs.getD q #[] := by rw [z]
    rw [List.getD_eq_getElem?_getD, List.getElem?_set_self (by rw [List.length_set]; exact hq)] at z2
    exact z2
  · intro e
    have e1 : bs.set p (bs.getD q #[]) = bs := by
      rw [← e, List.getD_eq_getElem?_getD, List.getElem?_eq_getElem hp]
      exact List.set_getElem_self hp
    rw [e1, e]
    have e2 : bs.set q (bs.getD q #[]) = bs := by
      rw [List.getD_eq_getElem?_getD, List.getElem?_eq_getElem hq]
      exact List.set_getElem_self hq
    rw [e2]
end
section
/-- says by which word a comprehension with a test is walked -/
structure CompWordT (R : Nat → List Value → Prop) : Prop where
theorem wordOf {R : Nat → List Value → Prop} (_h : CompWordT R) : CompWord R := .mk
theorem csize_take {ws : List Value} {bs : List (Array UInt8)} {k : Nat} (h : BytesAre ws (bs.take k)) (hk : k ≤ 1000) : ws.toArray.size ≤ sizeLine := by
  rw [List.size_toArray, h.length, List.length_take, sizeLine_eq]
  omega
theorem csize_len {n : Nat} (h : n ≤ 17) : ((n : Int) - 0).toNat ≤ sizeLine := by
  rw [sizeLine_eq]
  omega
theorem small_len {n : Nat} (h : n ≤ 17) : Builtin.Range.small 0 ((n : Nat) : Int) 1 = true := small_one (by omega) (by omega) (by omega) (by omega)
theorem pairF_get {g : Array UInt8 → Array UInt8} : ∀ (j : Nat) (hs : List (Array UInt8)), 2 * j < hs.length →
    (pairF g hs)[j]? = some (g (hs.getD (2 * j) #[] ++ (if 2 * j + 1 < hs.length then hs.getD (2 * j + 1) #[] else hs.getD (2 * j) #[])))
  | _, [], h => by simp at h
  | 0, [a], _ => rfl
  | 0, a :: b :: r, _ => by
    rw [if_pos (by simp)]
    rfl
  | j + 1, [_], h => by simp at h
  | j + 1, a :: b :: r, h => by
    have ih := pairF_get (g := g) j r (by simp at h; omega)
    show (pairF g r)[j]? = _
    rw [ih]
    have e0 : (a :: b :: r).getD (2 * (j + 1)) #[] = r.getD (2 * j) #[] := rfl
    have e1 : (a :: b :: r).getD (2 * (j + 1) + 1) #[] = r.getD (2 * j + 1) #[] := rfl
    rw [e0, e1]
    by_cases q : 2 * j + 1 < r.length
    · rw [if_pos q, if_pos (by rw [List.length_cons, List.length_cons]; omega)]
    · rw [if_neg q, if_neg (by rw [List.length_cons, List.length_cons]; omega)]
theorem pair_even {g : Array UInt8 → Array UInt8} {bs : List (Array UInt8)} {i : Nat} (h : i % 2 = 0) (hi : i < bs.length) :
    (pairF g bs).take ((i + 1 + 1) / 2) = (pairF g bs).take ((i + 1) / 2) ++ [g (bs.getD i #[] ++ (if i + 1 < bs.length then bs.getD (i + 1) #[] else bs.getD i #[]))] := by
  obtain ⟨j, rfl⟩ : ∃ j, i = 2 * j := ⟨i / 2, by omega⟩
  have e1 : (2 * j + 1 + 1) / 2 = j + 1 := by omega
  have e2 : (2 * j + 1) / 2 = j := by omega
  rw [e1, e2, List.take_add_one, pairF_get j bs hi]
  rfl
theorem pair_odd {g : Array UInt8 → Array UInt8} {bs : List (Array UInt8)} {i : Nat} (h : ¬ i % 2 = 0) :
    (pairF g bs).take ((i + 1 + 1) / 2) = (pairF g bs).take ((i + 1) / 2) := by
  have e : (i + 1 + 1) / 2 = (i + 1) / 2 := by omega
  rw [e]
theorem pair_all {g : Array UInt8 → Array UInt8} {bs : List (Array UInt8)} {n : Nat} (h : n = ((bs.length : Int) - 0).toNat) : (pairF g bs).take ((n + 1) / 2) = pairF g bs := by
  rw [List.take_of_length_le]
  rw [pairF_length]
  omega
theorem rp_type : typeOf (.builtin "bytes.replace") = pure (.type "method_descriptor") := by show builtinType _ = _; rw [builtinType_eq_fast]; with_unfolding_all rfl
theorem rp_method {M : Model} {A : Around} {E : Value → Shared → Prop} {s : Shared} {b : Array UInt8} {t : Tok} {pl : Sem Bool} {Q : Value × List Value → Shared → Prop} (h : Q (.builtin "bytes.replace", [.bytes b t]) s) : wpAny M A (getMethod (.bytes b t) (PySem.Str.ofString "replace") pl) Q E s := by
  with_reducible exact KBd.method_of (.bytes b t) (typeIs_bytes _ _ _) rp_slot rp_type KBd.noRef h
section
variable {prog : Program} {w : World} {A : Around} {E : Value → Shared → Prop} {s : Shared} {h₀ : Heap} {L l l2 : Addr} {news : List (Addr × Obj)} {vs ws : List Value} {bs cs : List (Array UInt8)} {n n2 : Nat} {b c : Array UInt8} {t u : Tok}
theorem b_neF {Q : Value → Shared → Prop} (hb : b = c) (h : Q (.bool false) s) : wpAny (model prog w) A (compareOp .NotEq (.bytes b t) (.bytes c u)) Q E s := by
  refine b_ne ?_
  rw [decide_eq_false (fun x => x hb)]
  exact h
theorem b_eqT {Q : Value → Shared → Prop} (hb : b = c) (h : Q (.bool true) s) : wpAny (model prog w) A (compareOp .Eq (.bytes b t) (.bytes c u)) Q E s := by
  refine b_eq ?_
  rw [decide_eq_true hb]
  exact h
theorem b_eqF {Q : Value → Shared → Prop} (hb : b ≠ c) (h : Q (.bool false) s) : wpAny (model prog w) A (compareOp .Eq (.bytes b t) (.bytes c u)) Q E s := by
  refine b_eq ?_
  rw [decide_eq_false hb]
  exact h
theorem b_neListF {Q : Value → Shared → Prop} (N : News h₀ L s.heap news) (hm : (l, listOf vs.toArray n) ∈ news) (hm2 : (l2, listOf ws.toArray n2) ∈ news) (hb : BytesAre vs bs) (hc : BytesAre ws bs) (hu : A.units < cLine)
    (h : Q (.bool false) s) : wpAny (model prog w) A (compareOp .NotEq (.ref l) (.ref l2)) Q E s := by
  refine b_neList N hm hm2 hb hc hu ?_
  rw [decide_eq_false (fun x => x rfl)]
  exact h
end
theorem Leaves.pair_tame {bs : List (Array UInt8)} (h : Leaves bs) : Tame (pairF shownB bs) := by
  have := h.len
  refine ⟨by rw [pairF_length]; omega, fun x hx => ?_⟩
  rw [pairF_sz bs h.one x hx]
  decide
theorem tame_turnedI {bs : List (Array UInt8)} {p : Int} (h : Tame bs) (h17 : bs.length ≤ 17) (h0 : 0 ≤ p) : Tame (bs.take p.toNat ++ [#[90]] ++ bs.drop (p + 1).toNat) := tame_turned h h17 (by omega)
theorem tame_swappedI {bs : List (Array UInt8)} {i j a c : Nat} {x y : Array UInt8} (h : Tame bs) (hx : x = bs.getD a #[]) (hy : y = bs.getD c #[]) : Tame ((bs.set i x).set j y) := by
  subst hx hy
  exact tame_swapped h
theorem tame_lastI {bs : List (Array UInt8)} (h : Tame bs) (h17 : bs.length ≤ 17) : Tame (bs ++ bs.drop (bs.length - (- -1 : Int).toNat)) := tame_last h (by omega) (by have : (- -1 : Int).toNat = 1 := rfl; omega)
theorem pos_left {as bs : List (Array UInt8)} (h : 0 < as.length) : 0 < (as ++ bs).length := by
  rw [List.length_append]
  omega
theorem pos_mid {as bs : List (Array UInt8)} {x : Array UInt8} : 0 < (as ++ [x] ++ bs).length := by
  rw [List.length_append, List.length_append]
  simp
  omega
theorem add_mid {as bs : List (Array UInt8)} {x : Array UInt8} (ha : as.length ≤ 100) : as.length + [x].length ≤ 1000000 := by
  simp
  omega
theorem take_short {bs : List (Array UInt8)} {k : Nat} (h : bs.length ≤ 17) : (bs.take k).length + [(#[90] : Array UInt8)].length ≤ 1000000 := by
  rw [List.length_take]
  simp
  omega
theorem turned_short {bs : List (Array UInt8)} {k k' : Nat} (h : bs.length ≤ 17) : (bs.take k ++ [(#[90] : Array UInt8)]).length + (bs.drop k').length ≤ 1000000 := by
  rw [List.length_append, List.length_take, List.length_drop]
  simp
  omega
theorem last_short {bs : List (Array UInt8)} {k : Nat} (h : bs.length ≤ 17) : bs.length + (bs.drop k).length ≤ 1000000 := by
  rw [List.length_drop]
  omega
theorem mk_twiceI {g : Array UInt8 → Array UInt8} {bs : List (Array UInt8)} (ho : Int.fmod (bs.length : Int) 2 = 1) (h1 : (1 : Int) < (bs.length : Int)) : mk g (bs ++ bs.drop (bs.length - (- -1 : Int).toNat)) = mk g bs := by
  rw [fmod_two] at ho
  exact mk_twice (by omega) (by omega) rfl
theorem mk_pairI {g : Array UInt8 → Array UInt8} {bs : List (Array UInt8)} (h1 : (1 : Int) < (bs.length : Int)) : mk g (pairF g bs) = mk g bs := (mk_more g bs (by omega)).symm
theorem turned_neI {bs : List (Array UInt8)} (h : Leaves bs) {p : Int} (h0 : 0 ≤ p) (h1 : p < (bs.length : Int)) : mk shownB (bs.take p.toNat ++ [#[90]] ++ bs.drop (p + 1).toNat) ≠ mk shownB bs := by
  have e : (p + 1).toNat = p.toNat + 1 := by omega
  rw [e]
  exact turned_ne h (by omega)
theorem turned_backI {bs : List (Array UInt8)} (h : Leaves bs) {p : Int} (h0 : 0 ≤ p) (h1 : p < (bs.length : Int)) {x : Array UInt8} (hx : x = bs.getD p.toNat #[]) :
    hom (swapF (x.getD 0 0)) (mk shownB (bs.take p.toNat ++ [#[90]] ++ bs.drop (p + 1).toNat)) = mk shownB bs := by
  have e : (p + 1).toNat = p.toNat + 1 := by omega
  rw [e]
  obtain ⟨c, hc, _⟩ := h.get (p := p.toNat) (by omega)
  subst hx
  refine turned_back h (by omega) ?_
  rw [hc]
  rfl
theorem swapped_stay {bs : List (Array UInt8)} (h : Leaves bs) {p q : Int} (h0 : 0 ≤ p) (h1 : p < (bs.length : Int)) (h2 : 0 ≤ q) (h3 : q < (bs.length : Int)) {x y x' y' : Array UInt8}
    (hx : x = bs.getD p.toNat #[]) (hy : y = bs.getD q.toNat #[]) (hx' : x' = bs.getD p.toNat #[]) (hy' : y' = bs.getD q.toNat #[]) :
    decide (mk shownB ((bs.set p.toNat y).set q.toNat x) = mk shownB bs) = decide (x' = y') := by
  subst hx hy hx' hy'
  exact decide_eq_decide.mpr (swapped_iff h (by omega) (by omega))
theorem one_I {bs : List (Array UInt8)} (h : Leaves bs) {p : Int} (h0 : 0 ≤ p) (h1 : p < (bs.length : Int)) {x : Array UInt8} (hx : x = bs.getD p.toNat #[]) : x.size = 1 := by
  subst hx
  exact leaf_one h (by omega)
theorem idx_facts {i n : Nat} (h : i < ((n : Int) - 0).toNat) : i < n ∧ 0 ≤ (0 : Int) + (i : Int) ∧ (0 : Int) + (i : Int) < (n : Int) ∧ 0 ≤ (0 : Int) + (i : Int) + 1 := by omega
theorem pair_turn_yes {bs : List (Array UInt8)} {i : Nat} {ys : List Value} {b c : Array UInt8} {t : Tok} (hi : i < bs.length) (hR : PairWord bs i ys) (he : Int.fmod ((0 : Int) + (i : Int)) 2 = 0)
    (hb : b = bs.getD ((0 : Int) + (i : Int)).toNat #[]) (hc : c = if i + 1 < bs.length then bs.getD ((0 : Int) + (i : Int) + 1).toNat #[] else bs.getD ((0 : Int) + (i : Int)).toNat #[]) :
    PairWord bs (i + 1) (ys ++ [.bytes (#[40] ++ b ++ c ++ #[41]) t]) := by
  have e1 : ((0 : Int) + (i : Int)).toNat = i := by omega
  have e2 : ((0 : Int) + (i : Int) + 1).toNat = i + 1 := by omega
  have e3 : (0 : Int) + (i : Int) = (i : Int) := by omega
  rw [e3, fmod_two] at he
  rw [e1] at hb hc
  rw [e2] at hc
  unfold PairWord at hR ⊢
  rw [pair_even (by omega) hi, ← hc, ← hb]
  have e4 : #[40] ++ b ++ c ++ #[41] = shownB (b ++ c) := by
    unfold shownB
    simp only [Array.append_assoc]
  rw [e4]
  exact bs_snoc hR
theorem pair_turn_no {bs : List (Array UInt8)} {i : Nat} {ys : List Value} (hR : PairWord bs i ys) (he : ¬ Int.fmod ((0 : Int) + (i : Int)) 2 = 0) : PairWord bs (i + 1) ys := by
  have e3 : (0 : Int) + (i : Int) = (i : Int) := by omega
  rw [e3, fmod_two] at he
  unfold PairWord at hR ⊢
  rw [pair_odd (by omega)]
  exact hR
end
section
theorem pair_start {bs : List (Array UInt8)} : PairWord bs 0 [] := by
  unfold PairWord
  exact .nil
theorem hash_start {bs : List (Array UInt8)} : HashWord bs 0 [] := by
  unfold HashWord
  exact .nil
theorem pair_turn_two {bs : List (Array UInt8)} {i : Nat} {ys : List Value} {b c : Array UInt8} {t : Tok} (hi : i < bs.length) (hR : PairWord bs i ys) (he : Int.fmod ((0 : Int) + (i : Int)) 2 = 0)
    (hn : (0 : Int) + (i : Int) + 1 < (bs.length : Int)) (hb : b = bs.getD ((0 : Int) + (i : Int)).toNat #[]) (hc : c = bs.getD ((0 : Int) + (i : Int) + 1).toNat #[]) :
    PairWord bs (i + 1) (ys ++ [.bytes (#[40] ++ b ++ c ++ #[41]) t]) :=
  pair_turn_yes hi hR he hb (by rw [if_pos (by omega)]; exact hc)
theorem pair_turn_one {bs : List (Array UInt8)} {i : Nat} {ys : List Value} {b c : Array UInt8} {t : Tok} (hi : i < bs.length) (hR : PairWord bs i ys) (he : Int.fmod ((0 : Int) + (i : Int)) 2 = 0)
    (hn : ¬ (0 : Int) + (i : Int) + 1 < (bs.length : Int)) (hb : b = bs.getD ((0 : Int) + (i : Int)).toNat #[]) (hc : c = bs.getD ((0 : Int) + (i : Int)).toNat #[]) :
    PairWord bs (i + 1) (ys ++ [.bytes (#[40] ++ b ++ c ++ #[41]) t]) :=
  pair_turn_yes hi hR he hb (by rw [if_neg (by omega)]; exact hc)
theorem pair_done {bs : List (Array UInt8)} {ys : List Value} (h : PairWord bs (((bs.length : Nat) : Int) - 0).toNat ys) : BytesAre ys (pairF shownB bs) := by
  unfold PairWord at h
  rw [pair_all rfl] at h
  exact h
theorem hash_turn {bs : List (Array UInt8)} {i k : Nat} {ys : List Value} {b : Array UInt8} {t : Tok} (hR : HashWord bs i ys) (hb : (bs.take k)[i]? = some b) : HashWord bs (i + 1) (ys ++ [.bytes (toB (mixZ b)) t]) := by
  unfold HashWord at hR ⊢
  have hb' : bs[i]? = some b := by
    rw [List.getElem?_take] at hb
    split at hb
    · exact hb
    · cases hb
  have e : (bs.map shaB).take (i + 1) = (bs.map shaB).take i ++ [shaB b] := by
    rw [List.take_add_one, List.getElem?_map, hb']
    rfl
  rw [e]
  exact bs_snoc hR
theorem hash_done {bs : List (Array UInt8)} {ws ys : List Value} {k : Nat} (hw : BytesAre ws (bs.take k)) (h : HashWord bs ws.toArray.size ys) (hk : k ≤ 4) (hk' : 0 < k) (h0 : 0 < bs.length) :
    ∃ hs, BytesAre ys hs ∧ 0 < hs.length ∧ hs.length ≤ 4 ∧ ∀ x ∈ hs, x.size = 32 := by
  have hl := hw.length
  rw [List.length_take] at hl
  refine ⟨_, h, ?_, ?_, fun x hx => ?_⟩
  · rw [List.length_take, List.length_map, List.size_toArray]; omega
  · rw [List.length_take, List.length_map, List.size_toArray]; omega
  · obtain ⟨y, _, rfl⟩ := List.mem_map.mp (List.mem_of_mem_take hx)
    exact shaB_size y
theorem tame_hash {hs : List (Array UInt8)} (h1 : hs.length ≤ 4) (h2 : ∀ x ∈ hs, x.size = 32) : Tame hs := ⟨by omega, fun x hx => by rw [h2 x hx]; decide⟩
/-- one turn of the due loop: the rows of a comprehension over two and two -/
def DueWord (row : List (Array UInt8)) (n : Nat) (ys : List Value) : Prop := BytesAre ys ((pairF dshaB row).take ((n + 1) / 2))
theorem due_start {row : List (Array UInt8)} : DueWord row 0 [] := by
  unfold DueWord
  exact .nil
theorem due_no {row : List (Array UInt8)} {i : Nat} {ys : List Value} (hR : DueWord row i ys) (he : ¬ Int.fmod ((0 : Int) + (i : Int)) 2 = 0) : DueWord row (i + 1) ys := by
  have e3 : (0 : Int) + (i : Int) = (i : Int) := by omega
  rw [e3, fmod_two] at he
  unfold DueWord at hR ⊢
  rw [pair_odd (by omega)]
  exact hR
theorem due_yes {row row' : List (Array UInt8)} {i : Nat} {ys : List Value} {b c : Array UInt8} {t : Tok} (hp : pairF dshaB row = pairF dshaB row') (hl : row'.length % 2 = 0) (hi : i < row'.length) (hR : DueWord row i ys) (he : Int.fmod ((0 : Int) + (i : Int)) 2 = 0)
    (hb : b = row'.getD ((0 : Int) + (i : Int)).toNat #[]) (hc : c = row'.getD ((0 : Int) + (i : Int) + 1).toNat #[]) :
    DueWord row (i + 1) (ys ++ [.bytes (toB (mixZ (toB (mixZ (b ++ c))))) t]) := by
  have e1 : ((0 : Int) + (i : Int)).toNat = i := by omega
  have e2 : ((0 : Int) + (i : Int) + 1).toNat = i + 1 := by omega
  have e3 : (0 : Int) + (i : Int) = (i : Int) := by omega
  rw [e3, fmod_two] at he
  rw [e1] at hb
  rw [e2] at hc
  unfold DueWord at hR ⊢
  rw [hp] at hR ⊢
  rw [pair_even (by omega) hi, if_pos (by omega), ← hc, ← hb]
  exact bs_snoc hR
theorem due_done {row row' : List (Array UInt8)} {ys : List Value} (h : DueWord row (((row'.length : Nat) : Int) - 0).toNat ys) (hl : row.length ≤ row'.length) : BytesAre ys (pairF dshaB row) := by
  unfold DueWord at h
  rw [List.take_of_length_le (by rw [pairF_length]; omega)] at h
  exact h
theorem row_odd {g : Array UInt8 → Array UInt8} {row : List (Array UInt8)} (ho : Int.fmod (row.length : Int) 2 = 1) : pairF g row = pairF g (row ++ row.drop (row.length - (- -1 : Int).toNat)) ∧ (row ++ row.drop (row.length - (- -1 : Int).toNat)).length = row.length + 1 ∧ row.length % 2 = 1 := by
  rw [fmod_two] at ho
  have ho' : row.length % 2 = 1 := by omega
  have e0 : (- -1 : Int).toNat = 1 := rfl
  rw [e0]
  have e : row.drop (row.length - 1) = [row.getD (2 * (row.length / 2)) #[]] := by
    have hk' : row.length - 1 = 2 * (row.length / 2) := by omega
    rw [hk', List.getD_eq_getElem?_getD, List.getElem?_eq_getElem (by omega), List.drop_eq_getElem_cons (by omega), List.drop_eq_nil_of_le (by omega)]
    rfl
  rw [e]
  refine ⟨(pairF_odd g (row.length / 2) row _ (by omega) rfl).symm, ?_, ho'⟩
  rw [List.length_append]
  rfl
theorem row_even {row : List (Array UInt8)} (ho : Int.fmod (row.length : Int) 2 ≠ 1) : row.length % 2 = 0 := by
  rw [fmod_two] at ho
  omega
/-- a place that is even has one behind it -/
structure EvenNext (i n : Int) : Prop where
  next : Int.fmod i 2 = 0 → i + 1 < n
theorem even_next {i n : Nat} (hl : n % 2 = 0) (hi : i < n) : EvenNext ((0 : Int) + (i : Int)) (n : Int) := ⟨fun he => by
  have e3 : (0 : Int) + (i : Int) = (i : Int) := by omega
  rw [e3, fmod_two] at he
  omega⟩
theorem pairF_dsha_size : ∀ (row : List (Array UInt8)), ∀ x ∈ pairF dshaB row, x.size = 32
  | [], x, hx => nomatch hx
  | [a], x, hx => by
    rw [List.mem_singleton.mp hx]
    exact shaB_size _
  | a :: b :: r, x, hx => by
    rcases List.mem_cons.mp hx with e | hx
    · rw [e]; exact shaB_size _
    · exact pairF_dsha_size r x hx
theorem due_end {hs row : List (Array UInt8)} {b : Array UInt8} (h : mk dshaB row = mk dshaB hs) (hn : ¬ (1 : Int) < (row.length : Int)) (e : b = row.getD (Int.toNat 0) #[]) : mk dshaB hs = b := by
  rw [← h, mk_one _ _ (by omega), e]
  rfl
theorem dsha_eq {x b c : Array UInt8} (h1 : b = x) (h2 : c = x) : dshaB b = toB (mixZ (toB (mixZ c))) := by
  rw [h1, h2]
  rfl
def DueJ (hs : List (Array UInt8)) (m₀ : Str → Option Value) (nx₀ : List (Addr × Obj)) (n : Nat) (m : Str → Option Value) (nx : List (Addr × Obj)) : Prop :=
  ∃ H oH LL oLL CD oD0 CL oCL oD l ws k row, nx₀ = [(H, oH), (LL, oLL), (CD, oD0), (CL, oCL)] ∧
    (l, listOf (List.toArray ws) k) ∈ nx ∧ (H, oH) ∈ nx ∧ (LL, oLL) ∈ nx ∧ (CD, oD) ∈ nx ∧ (CL, oCL) ∈ nx ∧ oD.data = .cell (some (.ref l)) ∧
    BytesAre ws row ∧ row.length = n ∧ 0 < row.length ∧ row.length ≤ 4 ∧ (∀ x ∈ row, x.size = 32) ∧ mk dshaB row = mk dshaB hs ∧ m = m₀
theorem cut_led {h₀ h : Heap} {L : Addr} {x0 x1 x2 x3 x4 x5 x6 x7 x8 x9 x10 x11 x12 x13 x14 x15 x16 x17 x18 : Addr × Obj} {r : List (Addr × Obj)}
    (N : News h₀ L h (x0 :: x1 :: x2 :: x3 :: x4 :: x5 :: x6 :: x7 :: x8 :: x9 :: x10 :: x11 :: x12 :: x13 :: x14 :: x15 :: x16 :: x17 :: x18 :: r)) : News h₀ L h [x0, x12, x17, x18] := fun p hp => N p (by
  simp only [List.mem_cons, List.not_mem_nil, or_false] at hp ⊢
  rcases hp with h | h | h | h <;> simp [h])
/-- says that the walk is to stop at the next assigned comprehension -/
structure StopWord : Prop where
theorem stop_here {prog : Program} {w : World} {A : Around} {E : Value → Shared → Prop} {s : Shared} {t : Sem Flow} {Q : Flow → Shared → Prop} (_h : StopWord) (h : Hold (wpAny (model prog w) A t Q E s)) : wpAny (model prog w) A t Q E s := h
theorem cut_three {h₀ h : Heap} {L : Addr} {x0 x1 x2 x3 x4 x5 x6 x7 x8 x9 x10 x11 x12 x13 x14 x15 x16 : Addr × Obj} {r : List (Addr × Obj)}
    (N : News h₀ L h (x0 :: x1 :: x2 :: x3 :: x4 :: x5 :: x6 :: x7 :: x8 :: x9 :: x10 :: x11 :: x12 :: x13 :: x14 :: x15 :: x16 :: r)) : News h₀ L h [x10, x15, x16] := fun p hp => N p (by
  simp only [List.mem_cons, List.not_mem_nil, or_false] at hp ⊢
  rcases hp with h | h | h <;> simp [h])
theorem cut_second {h₀ h : Heap} {L : Addr} {x0 x1 : Addr × Obj} {r : List (Addr × Obj)} (N : News h₀ L h (x0 :: x1 :: r)) : News h₀ L h (x0 :: r) := fun p hp => N p (by
  rcases List.mem_cons.mp hp with rfl | hp
  · exact .head _
  · exact .tail _ (.tail _ hp))
theorem due_led {h₀ h : Heap} {L : Addr} {nx : List (Addr × Obj)} {p1 p2 p3 p4 p5 : Addr × Obj} (N : News h₀ L h nx) (h1 : p1 ∈ nx) (h2 : p2 ∈ nx) (h3 : p3 ∈ nx) (h4 : p4 ∈ nx) (h5 : p5 ∈ nx) : News h₀ L h [p1, p2, p3, p4, p5] := fun p hp => N p (by
  simp only [List.mem_cons, List.not_mem_nil, or_false] at hp
  rcases hp with rfl | rfl | rfl | rfl | rfl <;> assumption)
theorem app_le {row : List (Array UInt8)} {k : Nat} (h : row.length ≤ 17) : (row ++ row.drop k).length ≤ 1000000 := by
  rw [List.length_append, List.length_drop]
  omega
theorem app_small {row : List (Array UInt8)} {k : Nat} (h : row.length ≤ 17) : Builtin.Range.small 0 (((row ++ row.drop k).length : Nat) : Int) 1 = true := by
  have h1 := app_le (k := k) h
  exact small_one (by omega) (by omega) (by omega) (by omega)
theorem app_csize {row : List (Array UInt8)} {k : Nat} (h : row.length ≤ 17) : (((row ++ row.drop k).length : Int) - 0).toNat ≤ sizeLine := by
  have h1 := app_le (k := k) h
  rw [sizeLine_eq]
  omega
theorem row_small {row : List (Array UInt8)} {k : Nat} (h : row.length ≤ 4) (h2 : ∀ x ∈ row, x.size = 32) : Small (row ++ row.drop k) := by
  refine ⟨Nat.le_trans (Nat.le_of_eq (List.length_append ..)) ?_, fun x hx => ?_⟩
  · rw [List.length_drop]; omega
  · have : x ∈ row := (List.mem_append.mp hx).elim id fun q => List.mem_of_mem_drop q
    rw [h2 x this]; decide
theorem cw_none {M : Model} {A : Around} {E : Value → Shared → Prop} {s : Shared} {Q : Value → Shared → Prop} {pos : Pos} {f : Value} {first : List Value} {env : Env} {w : World} {h₀ : Heap} {L : Addr} {m : Str → Option Value}
    (X : (hd.heap_39 w.params).In h₀) (F : Fr h₀ L s.heap m) (hk : keepIn (hd.heap_39 w.params) f = true) (h : wpAny M A (call f (first ++ [])) Q E s) : wpAny M A (callWith pos f first (backTo pos (starEach [] env)) []) Q E s :=
  callWith_K0 (Frag.In.keeps X (Fr.keep F)) hk h
theorem due_step {row hs : List (Array UInt8)} {nn : Nat} (hn : row.length = nn) (hgt : (1 : Int) < (row.length : Int)) (h4 : row.length ≤ 4) (hmk : mk dshaB row = mk dshaB hs) :
    (pairF dshaB row).length < nn ∧ 0 < (pairF dshaB row).length ∧ (pairF dshaB row).length ≤ 4 ∧ mk dshaB (pairF dshaB row) = mk dshaB hs := by
  have hl := pairF_length dshaB row
  exact ⟨by omega, by omega, by omega, (mk_more dshaB row (by omega)).symm.trans hmk⟩
end
section
theorem fresh_21 : True := by
  w_top off
  exact True.intro
local macro_rules | `(tactic| walk_at "B len") => `(tactic| first | assumption | (refine Nat.le_trans (And.left (by assumption)) ?_; decide) | omega | ((have hS9 := And.left (by with_reducible assumption : Small _)); (try simp only [List.length_append, List.length_cons, List.length_nil]); omega))
local macro_rules | `(tactic| walk_at "B arith") => `(tactic| first | assumption | omega | ((try simp only [List.length_append, List.length_drop, List.length_take, List.size_toArray, List.length_cons, List.length_nil, Array.size_append]); omega) | (law_clear; (try law_fm); omega))
local macro_rules | `(tactic| k_mem) => `(tactic| assumption)
local macro_rules | `(tactic| k_all) => `(tactic| assumption)
local macro_rules | `(tactic| walk_at "call builtin:len") => `(tactic| (k_here; (with_reducible show wpAny _ _ (call (Value.builtin "len") [Value.ref _]) _ _ _); k_dflt (refine' b_len ?N ?a ?b ?z ?_; (case N => k_asm); (case a => k_mem); (case b => with_reducible assumption); (case z => walk_at "B len"))))
local macro_rules | `(tactic| walk_at "B item") => `(tactic| (k_here; (with_reducible show wpAny _ _ (subscriptTail _ _ (Value.ref _) (Value.int _ _)) _ _ _); k_dflt (refine' b_itemS ?N ?a ?b ?c ?d ?e ?_ ?f; (case N => k_asm); (case a => k_mem); (case b => with_reducible assumption); (case c => with_reducible assumption); (case d => walk_at "B arith"); (case e => walk_at "B arith"); (case f => with_unfolding_all rfl)); intro bI tI eI sI))
local macro_rules | `(tactic| walk_at "B itemNeg") => `(tactic| (k_here; (with_reducible show wpAny _ _ (subscriptTail _ _ (Value.ref _) (Value.int _ _)) _ _ _); k_dflt (refine' b_itemNegS ?N ?a ?b ?c ?d ?e ?_ ?f; (case N => k_asm); (case a => k_mem); (case b => with_reducible assumption); (case c => with_reducible assumption); (case d => walk_at "B arith"); (case e => walk_at "B arith"); (case f => with_unfolding_all rfl)); intro bI tI eI sI))
local macro_rules | `(tactic| walk_at "subscriptTail Name Name ref int") => `(tactic| walk_at "B item")
local macro_rules | `(tactic| walk_at "subscriptTail Name BinOp ref int") => `(tactic| walk_at "B item")
local macro_rules | `(tactic| walk_at "subscriptTail Name Constant ref int") => `(tactic| walk_at "B item")
local macro_rules | `(tactic| walk_at "subscriptTail Name UnaryOp ref int") => `(tactic| walk_at "B itemNeg")
local macro_rules | `(tactic| walk_at "binaryOp Add bytes bytes") => `(tactic| (k_here; (with_reducible show wpAny _ _ (binaryOp Operator.Add (Value.bytes _ _) (Value.bytes _ _)) _ _ _); (refine KBy.add_bytes ?z ?_); (case z => walk_at "B arith"); intro tI kI))
local macro_rules | `(tactic| walk_at "call type:list") => `(tactic| (k_here; (with_reducible show wpAny _ _ (call (Value.type _) [Value.ref _]) _ _ _); k_dflt (refine' b_list ?N ?a ?b ?c ?z ?_; (case N => k_asm); (case a => k_asm); (case b => k_mem); (case c => with_reducible assumption); (case z => walk_at "B len")); intro D' c' h' F' N' l1; (try k_lt l1); (try k_sweep)))
local macro_rules | `(tactic| walk_at "call builtin:list.append") => `(tactic| (k_here; (with_reducible show wpAny _ _ (call (Value.builtin _) [Value.ref _, Value.bytes _ _]) _ _ _); k_dflt (refine' b_append ?k1 ?k2 ?k3 ?b ?z ?_; (case k1 => k_asm); (case k2 => k_asm); (case k3 => k_upd); (case b => with_reducible assumption); (case z => walk_at "B len"); k_whole); intro h' F' N' bA; (try k_sweep)))
local macro_rules | `(tactic| walk_at "compareOp Eq bytes bytes") => `(tactic| (refine b_eq ?_))
local macro_rules | `(tactic| walk_at "compareOp NotEq bytes bytes") => `(tactic| (refine b_ne ?_))
local macro_rules | `(tactic| walk_at "B enter") => `(tactic| (refine' code_def ?k1 ?k2 ?k3 ?k4 ?k5 ?kA ?kF ?kK ?k6 ?k7 ?k8 ?k9 ?kB ?_ ?c2 ?c3 ?c4 ?c5; (case kA => exact rfl); (case kF => exact rfl); (case kK => assumption); (case k1 => k_asm); (case k2 => k_asm); (case k3 => k_asm); (case k4 => k_asm); (case k5 => k_asm); (case k6 => k_is); (case k7 => k_is); (case k8 => ktr_room); (case k9 => first | exact BindsTo.of_eq rfl | exact binds_K (by k_in) rfl (by k_is) rfl rfl rfl); (case c5 => decide); (case kB => exact locs rfl); (case c2 => exact rfl); (case c3 => exact rfl); (case c4 => exact rfl); k_whole; intro g' L' h' FG' F' N' B' X' T'; (try dsimp only); (try k_fold)))
local macro_rules | `(tactic| walk_at "exec While Compare cons nil") => `(tactic| (k_here; (rename WhileWord _ => wW); k_dflt (refine' b_whileW wW ?F ?N ?hJ ?turn ?hE; (case F => k_asm); (case N => k_asm); (case hE => first | passes_own | with_unfolding_all passes_own)); clear wW))
local macro_rules | `(tactic| k_room) => `(tactic| ktr_room)
local macro_rules | `(tactic| k_units) => `(tactic| ktr_units)
local macro_rules | `(tactic| walk_at "B picks") => `(tactic| first | exact bs_all (by with_reducible assumption) | exact bs_upto (by with_reducible assumption) (by walk_at "B arith") | exact bs_from (by with_reducible assumption) (by walk_at "B arith") | exact bs_fromNeg (by with_reducible assumption) (by walk_at "B arith"))
local macro_rules | `(tactic| walk_at "subscriptTail Name Slice ref ref") => `(tactic| (k_here; (with_reducible show wpAny _ _ (subscriptTail _ (PySem.Expr.Slice _ _ none _) (Value.ref _) (Value.ref _)) _ _ _); k_dflt (refine' b_slice ?F ?N ?a ?p ?q ?b ?z ?c ?_ ?s ?t; (case F => k_asm); (case N => k_asm); (case a => k_mem); (case p => kmk_part); (case q => kmk_part); (case b => with_reducible assumption); (case z => walk_at "B len"); (case c => walk_at "B picks"); (case s => with_unfolding_all rfl); (case t => intro _; with_unfolding_all rfl)); intro D' ws' h' F' N' l1 bA; (try k_lt l1); (try k_sweep)))
local macro_rules | `(tactic| walk_at "binaryOp Add ref ref") => `(tactic| (k_here; (with_reducible show wpAny _ _ (binaryOp _ (Value.ref _) (Value.ref _)) _ _ _); k_dflt (refine' b_add ?F ?N ?a ?b ?c ?d ?z ?_; (case F => k_asm); (case N => k_asm); (case a => k_mem); (case b => k_mem); (case c => with_reducible assumption); (case d => with_reducible assumption); (case z => walk_at "B arith")); intro D' us' h' F' N' l1 bA; (try k_lt l1); (try k_sweep)))
local macro_rules | `(tactic| walk_at "B same") => `(tactic| first | with_reducible assumption | exact BytesAre.nil)
local macro_rules | `(tactic| walk_at "compareOp Eq ref ref") => `(tactic| (k_here; (with_reducible show wpAny _ _ (compareOp CmpOp.Eq (Value.ref _) (Value.ref _)) _ _ _); k_dflt (refine' b_eqList ?N ?a ?b ?c ?d ?u ?_; (case N => k_asm); (case a => k_mem); (case b => k_mem); (case c => walk_at "B same"); (case d => walk_at "B same"); (case u => ktr_units))))
local macro_rules | `(tactic| walk_at "compareOp NotEq ref ref") => `(tactic| (k_here; (with_reducible show wpAny _ _ (compareOp CmpOp.NotEq (Value.ref _) (Value.ref _)) _ _ _); k_dflt (refine' b_neList ?N ?a ?b ?c ?d ?u ?_; (case N => k_asm); (case a => k_mem); (case b => k_mem); (case c => walk_at "B same"); (case d => walk_at "B same"); (case u => ktr_units))))
local macro_rules | `(tactic| walk_at "B enterC") => `(tactic| (refine' code_defC ?k1 ?k2 ?k3 ?k4 ?k5 ?kA ?kF ?kK ?k6 ?k7 ?k8 ?k9 ?kB ?kD ?_ ?c2 ?c3 ?c4; (case kA => exact rfl); (case kF => exact rfl); (case kK => first | exact rfl | assumption); (case k1 => k_asm); (case k2 => k_asm); (case k3 => k_asm); (case k4 => k_asm); (case k5 => k_asm); (case k6 => k_is); (case k7 => k_is); (case k8 => ktr_room); (case k9 => first | exact BindsTo.of_eq rfl | exact binds_K (by k_in) rfl (by k_is) rfl rfl rfl); (case kB => exact rfl); (case kD => decide +kernel); (case c2 => exact rfl); (case c3 => exact rfl); (case c4 => exact rfl); k_whole; intro g' L' h' tk' cells' FG' F' N' Y' B' X' T' l1; (try k_lt l1); k_cells Y'; (try simp only [List.cons_append, List.nil_append] at N'); (try dsimp only); (try k_lift B'); (try k_fold)))
local macro_rules | `(tactic| walk_at "exec For Tuple Call") => `(tactic| (k_here; (with_reducible show wpAny _ _ (exec (Stmt.For (PySem.Expr.Tuple _ _ _) (PySem.Expr.Call (PySem.Expr.Name (Str.ofString "enumerate") _) _ _ _) _ _ _) _) _ _ _); (with_reducible rename Fr _ _ _ _ => kF); k_dflt (refine' For_turns kF ?_ ?hs ?hE; (case hs => intro _; rfl); (case hE => first | passes_own | with_unfolding_all passes_own))))
local macro_rules | `(tactic| walk_at "call type:enumerate") => `(tactic| (k_here; (rename EnumWord _ => eW); k_dflt (refine' b_enumW eW ?hh ?F ?N ?hm ?hc ?hd ?hJ ?turn ?done; (case hh => rfl); (case F => k_asm); (case N => k_asm); (case hm => k_mem); (case hc => rfl); (case hd => rfl)); (try clear eW)))
local macro_rules | `(tactic| walk_at "eval ListComp") => `(tactic| (k_here; (with_reducible show wpAny _ _ (eval (PySem.Expr.ListComp _ [PySem.Comprehension.mk _ _ [] _] _ _) _) _ _ _); (rename CompWord _ => cW); k_dflt (refine LCg.ListComp_U (F₀ := by k_asm) (by with_unfolding_all rfl) (by decide) (by rfl) (by decide) (by rfl) ?_)))
local macro_rules | `(tactic| walk_at "eval ListComp") => `(tactic| (k_here; (with_reducible show wpAny _ _ (eval (PySem.Expr.ListComp _ [PySem.Comprehension.mk _ _ [_] _] _ _) _) _ _ _); (rename CompWord _ => cW); k_dflt (refine LCt.ListComp_T (F₀ := by k_asm) (by with_unfolding_all rfl) (by decide) (by rfl) (by decide) (by rfl) ?_)))
local macro_rules | `(tactic| walk_at "exec Assign cons ListComp") => `(tactic| (k_here; (with_reducible show wpAny _ _ (exec (PySem.Stmt.Assign _ (PySem.Expr.ListComp _ [PySem.Comprehension.mk _ _ [] _] _ _) _) _) _ _ _); (rename CompWord _ => cW); k_dflt (refine LCg.Assign_ListComp_U (F₀ := by k_asm) (by rfl) (by with_unfolding_all rfl) (by with_unfolding_all rfl) (by decide) (by rfl) (by decide) (by rfl) (by rfl) (by rfl) ?_)))
local macro_rules | `(tactic| walk_at "exec Assign cons ListComp") => `(tactic| (k_here; (with_reducible show wpAny _ _ (exec (PySem.Stmt.Assign _ (PySem.Expr.ListComp _ [PySem.Comprehension.mk _ _ [_] _] _ _) _) _) _ _ _); (rename CompWord _ => cW); k_dflt (refine LCt.Assign_ListComp_T (F₀ := by k_asm) (by rfl) (by with_unfolding_all rfl) (by with_unfolding_all rfl) (by decide) (by rfl) (by decide) (by rfl) (by rfl) (by rfl) ?_)))
local macro_rules | `(tactic| walk_at "B csize") => `(tactic| first | (rw [PySem.sizeLine_eq]; omega) | (rw [PySem.sizeLine_eq]; (simp only [List.size_toArray]); omega) | ((have hS9 := Nat.le_of_eq (BytesAre.length (by with_reducible assumption))); rw [PySem.sizeLine_eq]; (simp only [List.size_toArray]); omega))
local macro_rules | `(tactic| walk_at "CompSrc") => `(tactic| (k_here; (rename CompWord _ => cW); (try k_fmods); k_dflt (first
  | (refine' LCg.CompSrc.range ?h ?F ?N ?r ?sm (rangeSize_nat _ _) ?z ?_; (case h => rfl); (case F => k_asm); (case N => k_asm); (case r => assumption); (case sm => exact small_one (by omega) (by omega) (by omega) (by omega)); (case z => walk_at "B csize"); intro g'; refine' comp_rest cW ?_ ?_ ?_)
  | (refine' LCg.CompSrc.ledger ?h ?F ?N ?m ?z ?_; (case h => rfl); (case F => k_asm); (case N => k_asm); (case m => k_mem); (case z => walk_at "B csize"); intro g'; refine' comp_rest cW ?_ ?_ ?_)); (try clear cW)))
local macro_rules | `(tactic| walk_at "CompSrcT") => `(tactic| (k_here; (rename CompWord _ => cW); k_dflt (first
  | (refine' LCt.CompSrcT.range ?h ?F ?N ?r ?sm (rangeSize_nat _ _) ?z ?_; (case h => rfl); (case F => k_asm); (case N => k_asm); (case r => assumption); (case sm => exact small_one (by omega) (by omega) (by omega) (by omega)); (case z => walk_at "B csize"); intro g'; refine' compT_rest cW ?_ ?_ ?_)
  | (refine' LCt.CompSrcT.ledger ?h ?F ?N ?m ?z ?_; (case h => rfl); (case F => k_asm); (case N => k_asm); (case m => k_mem); (case z => walk_at "B csize"); intro g'; refine' compT_rest cW ?_ ?_ ?_)); (try clear cW)))
local macro_rules | `(tactic| walk_at "CompEnd") => `(tactic| (refine' LCg.CompEnd.intro ?F ?N _ ?sub ?off ?hS (bel_mk ?_); (case F => k_asm); (case N => k_asm); (case sub => kcf_all); (case off => first | assumption | (simp only [LCg.Off3, and_true]; done) | (simp only [LCg.Off3, and_true]; assumption)); (case hS => first | lcg_src | assumption)))
local macro_rules | `(tactic| walk_at "call builtin:len") => `(tactic| (k_here; (with_reducible show wpAny _ _ (call (Value.builtin "len") [Value.ref _]) _ _ _); k_dflt (refine' c_len ?N ?a ?b ?z ?_; (case N => k_asm); (case a => k_mem); (case b => with_reducible assumption); (case z => omega))))
local macro_rules | `(tactic| walk_at "inplaceOp Add bytes bytes") => `(tactic| (k_here; (with_reducible show wpAny _ _ (inplaceOp Operator.Add (Value.bytes _ _) (Value.bytes _ _)) _ _ _); (refine b_iadd ?z ?_); (case z => walk_at "B arith"); intro tI kI))
local macro_rules | `(tactic| walk_at "binaryOp Mult bytes int") => `(tactic| (k_here; (with_reducible show wpAny _ _ (binaryOp Operator.Mult (Value.bytes (List.toArray _) _) (Value.int _ _)) _ _ _); k_dflt (refine' b_rep ?h ?n ?_; (case h => exact rfl); (case n => omega)); intro tI kI))
local macro_rules | `(tactic| walk_at "call ref") => `(tactic| (k_here; (with_reducible show wpAny _ _ (call (Value.ref 85) [Value.bytes _ _]) _ _ _); k_dflt (refine' shown_use ?B ?F ?X ?N ?T ?k ?z ?d ?u ?_; (case B => k_asm); (case F => k_asm); (case X => k_asm); (case N => k_asm); (case T => k_asm); (case k => first | exact rfl | assumption); (case z => walk_at "B arith"); (case d => ktr_room); (case u => ktr_units)); intro tH hH tkH F' N'; (try dsimp only)))
local macro_rules | `(tactic| walk_at "call ref") => `(tactic| (k_here; (with_reducible show wpAny _ _ (call (Value.ref 78) [Value.ref _, Value.ref 85]) _ _ _); k_dflt (refine' pair_85 ?B ?F ?X ?N ?T ?k ?a ?b ?z ?z9 ?d ?u ?_; (case B => k_asm); (case F => k_asm); (case X => k_asm); (case N => k_asm); (case T => k_asm); (case k => first | exact rfl | assumption); (case a => k_mem); (case b => with_reducible assumption); (case z => with_reducible assumption); (case z9 => walk_at "B len"); (case d => ktr_room); (case u => ktr_units)); intro aP usP kP hP tkP F' N' lP bP; (try dsimp only)))
local macro_rules | `(tactic| walk_at "call ref") => `(tactic| (k_here; (with_reducible show wpAny _ _ (call (Value.ref 78) [Value.ref _, Value.ref 63]) _ _ _); k_dflt (refine' pair_63 ?B ?F ?X ?N ?T ?k ?a ?b ?z ?z9 ?d ?u ?_; (case B => k_asm); (case F => k_asm); (case X => k_asm); (case N => k_asm); (case T => k_asm); (case k => first | exact rfl | assumption); (case a => k_mem); (case b => with_reducible assumption); (case z => with_reducible assumption); (case z9 => walk_at "B len"); (case d => ktr_room); (case u => ktr_units)); intro aP usP kP hP tkP F' N' lP bP; (try dsimp only)))
local macro_rules | `(tactic| walk_at "call ref") => `(tactic| (k_here; (with_reducible show wpAny _ _ (call (Value.ref 49) [Value.bytes _ _, Value.int 1 _]) _ _ _); k_dflt (refine' mixed_tells ?B ?F ?X ?N ?T ?k ?z ?d ?u ?_; (case B => k_asm); (case F => k_asm); (case X => k_asm); (case N => k_asm); (case T => k_asm); (case k => first | exact rfl | assumption); (case z => walk_at "B arith"); (case d => ktr_room); (case u => ktr_units)); intro tH hH tkH F' N'; (try dsimp only)))
local macro_rules | `(tactic| walk_at "call builtin:int.to_bytes") => `(tactic| (k_here; (with_reducible show wpAny _ _ (call (Value.builtin "int.to_bytes") [Value.int (mixZ _) _, Value.int _ _, Value.str _ _]) _ _ _); k_dflt (refine b_toBytes (mixZ_lo _) (mixZ_hi _) ?_); intro tB kB))
local macro_rules | `(tactic| walk_at "B arith") => `(tactic| (rw [toB_size]; decide))
local macro_rules | `(tactic| walk_at "call ref") => `(tactic| (k_here; (with_reducible show wpAny _ _ (call (Value.ref 63) [Value.bytes _ _]) _ _ _); k_dflt (refine' dsha_use ?B ?F ?X ?N ?T ?k ?z ?d ?u ?_; (case B => k_asm); (case F => k_asm); (case X => k_asm); (case N => k_asm); (case T => k_asm); (case k => first | exact rfl | assumption); (case z => walk_at "B arith"); (case d => ktr_room); (case u => ktr_units)); intro tH hH tkH F' N'; (try dsimp only)))
local macro_rules | `(tactic| walk_at "B tame") => `(tactic| first | with_reducible assumption | exact tame_last (by with_reducible assumption) (by omega) (by omega) | exact tame_pair (by with_reducible assumption))
local macro_rules | `(tactic| walk_at "call ref") => `(tactic| (k_here; (with_reducible show wpAny _ _ (call (Value.ref 71) [Value.ref _, Value.ref 85]) _ _ _); k_dflt (refine' mk_85 ?B ?F ?X ?N ?T ?k ?a ?b ?z ?z9 ?d ?u ?_; (case B => k_asm); (case F => k_asm); (case X => k_asm); (case N => k_asm); (case T => k_asm); (case k => first | exact rfl | assumption); (case a => k_mem); (case b => with_reducible assumption); (case z => walk_at "B tame"); (case z9 => walk_at "B arith"); (case d => ktr_room); (case u => ktr_units)); intro tM hM tkM F' N'; (try dsimp only)))
local macro_rules | `(tactic| walk_at "call ref") => `(tactic| (k_here; (with_reducible show wpAny _ _ (call (Value.ref 71) [Value.ref _]) _ _ _); k_dflt (refine' mk_63 ?B ?F ?X ?N ?T ?k ?a ?b ?z ?z9 ?d ?u ?_; (case B => k_asm); (case F => k_asm); (case X => k_asm); (case N => k_asm); (case T => k_asm); (case k => first | exact rfl | assumption); (case a => k_mem); (case b => with_reducible assumption); (case z => walk_at "B tame"); (case z9 => walk_at "B arith"); (case d => ktr_room); (case u => ktr_units)); intro tM hM tkM F' N'; (try dsimp only)))
local macro_rules | `(tactic| walk_at "call ref") => `(tactic| (k_here; (with_reducible show wpAny _ _ (call (Value.ref 97) [Value.ref _]) _ _ _); k_dflt (refine' root_mk ?B ?F ?X ?N ?T ?k ?a ?b ?z ?z9 ?d ?u ?_; (case B => k_asm); (case F => k_asm); (case X => k_asm); (case N => k_asm); (case T => k_asm); (case k => first | exact rfl | assumption); (case a => k_mem); (case b => with_reducible assumption); (case z => with_reducible assumption); (case z9 => walk_at "B arith"); (case d => ktr_room); (case u => ktr_units)); intro tM hM tkM F' N'; (try dsimp only)))
local macro_rules | `(tactic| walk_at "call ref") => `(tactic| (k_here; (with_reducible show wpAny _ _ (call (Value.ref 56) [Value.bytes _ _]) _ _ _); k_dflt (refine' sha_use ?B ?F ?X ?N ?T ?k ?z ?d ?u ?_; (case B => k_asm); (case F => k_asm); (case X => k_asm); (case N => k_asm); (case T => k_asm); (case k => first | exact rfl | assumption); (case z => walk_at "B arith"); (case d => ktr_room); (case u => ktr_units)); intro x' d' tkS tS h' tkH F' N' l1 l2; (try k_lt l1); (try k_lt2 l2); (try k_sweep); (try dsimp only)))
local macro_rules | `(tactic| walk_at "B len") => `(tactic| ((simp only [List.length_append, List.length_set, List.length_take, List.length_drop, List.length_cons, List.length_nil]); omega))
local macro_rules | `(tactic| walk_at "call type:bytes") => `(tactic| (k_here; (with_reducible show wpAny _ _ (call (Value.type "bytes") [Value.ref _]) _ _ _); k_dflt (refine' b_bytes1 ?F ?N ?a ?z ?h ?_; (case F => k_asm); (case N => k_asm); (case a => k_mem); (case z => first | exact letter_mod _ | omega); (case h => rfl)); intro hY tY kY F' N'))
local macro_rules | `(tactic| walk_at "exec If") => `(tactic| (k_here; (with_reducible show wpAny _ _ (exec (PySem.Stmt.If _ [PySem.Stmt.Return _ _] [] _) _) _ _ _); (rename GuardWord => gW); k_dflt (refine' b_guard gW ?F ?N ?_ ?_; (case F => k_asm); (case N => k_asm); rotate_left; intro hG tkG F' N'; rotate_right)))
local macro_rules | `(tactic| walk_at "GuardEnd") => `(tactic| (k_dflt (refine' guard_end ?_ ?F ?N ?sub; (case F => k_asm); (case N => k_asm); (case sub => first | exact fun _ hp => hp | kcf_all)); (try exact ⟨rfl⟩)))
local macro_rules | `(tactic| walk_at "B one") => `(tactic| ((rename _ = List.getD _ _ _ => eO); rw [eO]; exact leaf_one (by with_reducible assumption) (by omega)))
local macro_rules | `(tactic| walk_at "B arith") => `(tactic| first | ((simp only [List.length_append, List.length_set, List.length_take, List.length_drop, List.length_cons, List.length_nil]); omega) | exact mk_size (by walk_at "B tame"))
local macro_rules | `(tactic| walk_at "B tame") => `(tactic| first | exact tame_turned (by with_reducible assumption) (by omega) (by omega) | exact tame_swapped (by with_reducible assumption) | ((have eT9 := (by with_reducible assumption : _ = List.getD _ _ _)); subst eT9; walk_at "B tame"))
local macro_rules | `(tactic| walk_at "call builtin:bytes.replace") => `(tactic| (k_here; (with_reducible show wpAny _ _ (call (Value.builtin "bytes.replace") [Value.bytes _ _, Value.bytes _ _, Value.bytes _ _]) _ _ _); k_dflt (refine' b_replace ?x ?z ?_; (case x => walk_at "B one"); (case z => walk_at "B arith")); intro tR kR))
local macro_rules | `(tactic| walk_at "setItem ref int") => `(tactic| (k_here; (with_reducible show wpAny _ _ (PySem.setItem (Value.ref _) (Value.int _ _) (Value.bytes _ _)) _ _ _); k_dflt (refine' b_set ?F ?N ?U ?hb ?h0 ?h1 ?hz ?_; (case F => k_asm); (case N => k_asm); (case U => k_upd); (case hb => with_reducible assumption); (case h0 => walk_at "B arith"); (case h1 => walk_at "B arith"); (case hz => walk_at "B len"); k_whole); intro h' F' N' bS; (try k_sweep)))
local macro_rules | `(tactic| walk_at "B row") => `(tactic| first | with_reducible assumption | exact BytesAre.cons _ _ BytesAre.nil)
local macro_rules | `(tactic| walk_at "binaryOp Add ref ref") => `(tactic| (k_here; (with_reducible show wpAny _ _ (binaryOp _ (Value.ref _) (Value.ref _)) _ _ _); k_dflt (refine' b_add ?F ?N ?a ?b ?c ?d ?z ?_; (case F => k_asm); (case N => k_asm); (case a => k_mem); (case b => k_mem); (case c => walk_at "B row"); (case d => walk_at "B row"); (case z => walk_at "B arith")); intro D' us' h' F' N' l1 bA; (try k_lt l1); (try k_sweep)))
local macro_rules | `(tactic| walk_at "B arith") => `(tactic| first | with_reducible assumption | ((simp only [List.length_set]); with_reducible assumption))
local macro_rules | `(tactic| walk_at "B len") => `(tactic| first | with_reducible assumption | ((simp only [List.length_set]); with_reducible assumption))
local macro_rules | `(tactic| walk_at "B csize") => `(tactic| first | exact csize_len (by with_reducible assumption) | exact csize_take (by with_reducible assumption) (by decide))
local macro_rules | `(tactic| walk_at "eval ListComp") => `(tactic| (k_here; (with_reducible show wpAny _ _ (eval (PySem.Expr.ListComp _ [PySem.Comprehension.mk _ _ [_] _] _ _) _) _ _ _); (rename CompWordT _ => cW); k_dflt (refine LCt.ListComp_T (F₀ := by k_asm) (by with_unfolding_all rfl) (by decide) (by rfl) (by decide) (by rfl) ?_)))
local macro_rules | `(tactic| walk_at "exec Assign cons ListComp") => `(tactic| (k_here; (with_reducible show wpAny _ _ (exec (PySem.Stmt.Assign _ (PySem.Expr.ListComp _ [PySem.Comprehension.mk _ _ [_] _] _ _) _) _) _ _ _); (rename CompWordT _ => cW); k_dflt (refine LCt.Assign_ListComp_T (F₀ := by k_asm) (by rfl) (by with_unfolding_all rfl) (by with_unfolding_all rfl) (by decide) (by rfl) (by decide) (by rfl) (by rfl) (by rfl) ?_)))
local macro_rules | `(tactic| walk_at "B csmall") => `(tactic| first | exact small_len (by with_reducible assumption) | exact small_one (by omega) (by omega) (by omega) (by omega))
local macro_rules | `(tactic| walk_at "CompSrcT") => `(tactic| (k_here; (rename CompWordT _ => cW); k_dflt (first
  | (refine' LCt.CompSrcT.range ?h ?F ?N ?r ?sm (rangeSize_nat _ _) ?z ?_; (case h => rfl); (case F => k_asm); (case N => k_asm); (case r => assumption); (case sm => walk_at "B csmall"); (case z => walk_at "B csize"); intro g'; refine' compT_rest (wordOf cW) ?_ ?_ ?_)
  | (refine' LCt.CompSrcT.ledger ?h ?F ?N ?m ?z ?_; (case h => rfl); (case F => k_asm); (case N => k_asm); (case m => k_mem); (case z => walk_at "B csize"); intro g'; refine' compT_rest (wordOf cW) ?_ ?_ ?_)); (try clear cW)))
local macro_rules | `(tactic| walk_at "B tame") => `(tactic| first | with_reducible assumption | exact tame_turnedI (by with_reducible assumption) (by with_reducible assumption) (by with_reducible assumption) | exact tame_swappedI (by with_reducible assumption) (by with_reducible assumption) (by with_reducible assumption) | exact tame_lastI (by with_reducible assumption) (by with_reducible assumption))
local macro_rules | `(tactic| walk_at "B arith") => `(tactic| first | with_reducible assumption | exact take_short (by with_reducible assumption) | exact turned_short (by with_reducible assumption) | exact last_short (by with_reducible assumption) | exact pos_left (by with_reducible assumption) | exact pos_mid | exact mk_size (by walk_at "B tame"))
local macro_rules | `(tactic| walk_at "B arith") => `(tactic| first | with_reducible assumption | ((simp only [List.length_set]); with_reducible assumption))
local macro_rules | `(tactic| walk_at "B picks") => `(tactic| first | exact bs_fromNeg (by with_reducible assumption) (by decide) | exact bs_all (by with_reducible assumption) | exact bs_upto (by with_reducible assumption) (by first | with_reducible assumption | decide) | exact bs_from (by with_reducible assumption) (by with_reducible assumption))
local macro_rules | `(tactic| walk_at "B equal") => `(tactic| first | with_reducible rfl | exact mk_twiceI (by with_reducible assumption) (by with_reducible assumption) | exact mk_pairI (by with_reducible assumption) | exact turned_backI (by with_reducible assumption) (by with_reducible assumption) (by with_reducible assumption) (by with_reducible assumption))
local macro_rules | `(tactic| walk_at "B differ") => `(tactic| exact turned_neI (by with_reducible assumption) (by with_reducible assumption) (by with_reducible assumption))
local macro_rules | `(tactic| walk_at "B one") => `(tactic| exact one_I (by with_reducible assumption) (by with_reducible assumption) (by with_reducible assumption) (by with_reducible assumption))
local macro_rules | `(tactic| walk_at "getMethod bytes") => `(tactic| (k_here; (with_reducible refine rp_method ?_)))
local macro_rules | `(tactic| walk_at "compareOp NotEq bytes bytes") => `(tactic| (k_here; (refine b_neF (by walk_at "B equal") ?_)))
local macro_rules | `(tactic| walk_at "compareOp Eq bytes bytes") => `(tactic| (k_here; first | (refine b_eqF (by walk_at "B differ") ?_) | (refine b_eqT (by walk_at "B equal") ?_)))
local macro_rules | `(tactic| walk_at "compareOp NotEq ref ref") => `(tactic| (k_here; (with_reducible show wpAny _ _ (compareOp CmpOp.NotEq (Value.ref _) (Value.ref _)) _ _ _); k_dflt (refine' b_neListF ?N ?a ?b ?c ?d ?u ?_; (case N => k_asm); (case a => k_mem); (case b => k_mem); (case c => with_reducible assumption); (case d => with_reducible assumption); (case u => ktr_units))))
local macro_rules | `(tactic| walk_at "exec Assign cons ListComp") => `(tactic| (k_here; (rename StopWord => sW); (refine stop_here sW ?_)))
local macro_rules | `(tactic| walk_at "B len") => `(tactic| first | with_reducible assumption | exact app_le (by with_reducible assumption) | ((simp only [List.length_set]); with_reducible assumption))
local macro_rules | `(tactic| walk_at "B csmall") => `(tactic| first | exact small_len (by with_reducible assumption) | exact app_small (by with_reducible assumption))
local macro_rules | `(tactic| walk_at "B csize") => `(tactic| first | exact csize_len (by with_reducible assumption) | exact csize_take (by with_reducible assumption) (by decide) | exact app_csize (by with_reducible assumption))
local macro_rules | `(tactic| walk_at "B arith") => `(tactic| exact EvenNext.next (by with_reducible assumption) (by with_reducible assumption))
local macro_rules | `(tactic| walk_at "B equal") => `(tactic| first | with_reducible rfl | exact due_end (by with_reducible assumption) (by with_reducible assumption) (by with_reducible assumption) | exact dsha_eq (by with_reducible assumption) (by with_reducible assumption) | exact mk_twiceI (by with_reducible assumption) (by with_reducible assumption) | exact mk_pairI (by with_reducible assumption) | exact turned_backI (by with_reducible assumption) (by with_reducible assumption) (by with_reducible assumption) (by with_reducible assumption))
local macro_rules | `(tactic| walk_at "callWith ref") => `(tactic| (k_here; (with_reducible show wpAny _ _ (callWith _ (Value.ref _) _ (backTo _ (starEach [] _)) []) _ _ _); k_dflt (refine' cw_none ?k1 ?k2 ?k3 ?_; (case k1 => with_reducible assumption); (case k2 => with_reducible assumption); (case k3 => k_is); k_whole)))
theorem law_done : PySem.Challenge.rw_fw0034_01.Holds := hd (by
  k_go0
  (rename Below callerA _ _ _ => K9)
  dsimp only [Top.heap] at K9
  (all_goals try k_fold)
  have gW : GuardWord := .mk
  have cW : CompWord LeafWord := .mk
  k_steps
  · exact ⟨[], .nil, rfl, fun _ h => nomatch h⟩
  · (rename CompWord _ => cW)
    clear cW
    intro i v I oI C oC D m₂ ys h tk E' hi hv hR hC hx F3 N3 off ne
    obtain ⟨t2, rfl⟩ := hv
    simp only [LCg.Off3, and_true] at off
    k_steps
    · exact leaf_more hR (by omega)
    all_goals exact leaf_more hR (letter_mod' _)
  · (rename CompWord _ => cW)
    clear cW
    intro ys hR
    obtain ⟨cs, hB, hl, hc⟩ := hR
    (rename Obj.data _ = Data.cell (some (Value.int _ _)) => dS)
    have hz := size_back hl (by omega)
    rw [hz] at dS
    have hl17 : cs.length ≤ 17 := by omega
    have hl1 : 1 ≤ cs.length := by omega
    have hLv : Leaves (cs.map fun c => #[c]) := ⟨cs, rfl, hl17, hc⟩
    have hTm := hLv.tame
    have hSm := hTm.small
    have hbl : (cs.map fun c => #[c]).length = cs.length := List.length_map _
    generalize (cs.map fun c => #[c]) = bs at *
    rw [← hbl] at dS hl1 hl17
    clear hl hz hc hbl
    clear cs
    (rename IntsAre _ (_ ++ _) => hNum)
    have hbz : bs.length ≤ 1000000 := Nat.le_trans hl17 (by decide)
    have h0 : 0 < bs.length := hl1
    have hTp := hLv.pair_tame
    have hSp := hTp.small
    have h0p : 0 < (pairF shownB bs).length := by rw [pairF_length]; omega
    obtain ⟨hP0, hP1⟩ := place_fact hNum (Int.toNat 19) hl1
    obtain ⟨hO0, hO1⟩ := place_fact hNum (Int.toNat 18) hl1
    have hP2 := Int.le_add_one hP0
    have cW : CompWordT (PairWord bs) := .mk
    have sW : StopWord := .mk
    k_steps
    · exact pair_start
    · intro i v I oI C oC D m₂ ys1 h tk E' hi hv hR hC hx F3 N3 off ne
      obtain ⟨t2, rfl⟩ := hv
      simp only [LCg.Off3, and_true] at off
      obtain ⟨hi1, q0, q1, q2⟩ := idx_facts hi
      k_steps
      · first
          | exact pair_turn_two hi1 hR (by with_reducible assumption) (by with_reducible assumption) (by with_reducible assumption) (by with_reducible assumption)
          | exact pair_turn_one hi1 hR (by with_reducible assumption) (by with_reducible assumption) (by with_reducible assumption) (by with_reducible assumption)
      · first
          | exact pair_turn_two hi1 hR (by with_reducible assumption) (by with_reducible assumption) (by with_reducible assumption) (by with_reducible assumption)
          | exact pair_turn_one hi1 hR (by with_reducible assumption) (by with_reducible assumption) (by with_reducible assumption) (by with_reducible assumption)
      · exact pair_turn_no hR (by with_reducible assumption)
    · intro ys2 hR
      have hR2 := pair_done hR
      clear hR
      k_steps
    · constructor
      rw [swapped_stay hLv hP0 hP1 hO0 hO1 (by with_reducible assumption) (by with_reducible assumption) (by with_reducible assumption) (by with_reducible assumption)]
      exact bne_self_eq_false _
    · unfold Hold
      (rename StopWord => sW)
      (rename CompWordT _ => cT)
      (rename GuardWord => gW)
      clear sW cT gW
      (rename News _ _ _ _ => N9)
      have N2 := cut_three N9
      clear N9
      (rename Fr _ _ _ _ => F9)
      obtain ⟨m9, F2⟩ : ∃ m9, Fr _ _ _ m9 := ⟨_, F9⟩
      clear F9
      repeat (rename BytesAre _ (List.take _ _ ++ _) => z; clear z)
      repeat (rename BytesAre _ (List.take _ _) => z; clear z)
      repeat (rename BytesAre _ (List.drop _ _) => z; clear z)
      repeat (rename BytesAre _ (List.set _ _ _) => z; clear z)
      repeat (rename _ = List.getD _ _ _ => z; clear z)
      repeat (rename Array.size _ ≤ _ => z; clear z)
      repeat (rename @LT.lt Nat _ _ _ ∧ _ => z; clear z)
      k_sweep
      have cW : CompWord (HashWord bs) := .mk
      k_steps
      · exact hash_start
      · (rename CompWord _ => cW)
        clear cW
        intro i v I oI C oC D m₂ ys1 h tk E' hi hv hR hC hx F3 N3 off ne
        (rename BytesAre _ (List.take (Int.toNat 4) bs) => bT)
        obtain ⟨b, t2, hb, rfl⟩ := bel_at bT hv
        have hb1 : b.size ≤ 3000000 := by
          have hm := List.mem_of_mem_take (List.mem_of_getElem? hb)
          rw [hLv.one b hm]
          decide
        simp only [LCg.Off3, and_true] at off
        k_steps
        all_goals exact hash_turn hR hb
      · (rename CompWord _ => cW)
        clear cW
        intro ys3 hR3
        (rename BytesAre _ (List.take (Int.toNat 4) bs) => bT)
        obtain ⟨hs, bH, hs0, hs4, hs32⟩ := hash_done bT hR3 (by decide) (by decide) h0
        unfold LCg.FinA
        intro H h tk F1 N1 o1
        have N3 := cut_second N1
        obtain ⟨m9, F3⟩ : ∃ m9 : Str → Option Value, Fr _ _ h (fun z => if z = Str.ofString "hashes" then some (Value.ref H) else m9 z) := ⟨_, F1⟩
        clear N1 F1 hR3 bT
        have hTh := tame_hash hs4 hs32
        have hSh := hTh.small
        have hW : WhileWord (DueJ hs) := .mk
        dsimp only
        k_steps
        · refine ⟨_, _, _, _, _, _, _, _, _, _, _, _, _, _, rfl, .head _, .head _, .tail _ (.head _), .tail _ (.tail _ (.head _)), .tail _ (.tail _ (.tail _ (.head _))), by assumption, bH, rfl, hs0, hs4, hs32, rfl, rfl⟩
        · (rename WhileWord _ => wW)
          clear wW
          intro nn m₁ nx h tk hJ F1 N1
          obtain ⟨H', oH, LL, oLL, CD, oD0, CL, oCL, oD, l, ws, k, row, e0, ml, mH, mLL, mCD, mCL, hdC, bR, hn, hr0, hr4, hr32, hmk, rfl⟩ := hJ
          simp only [List.cons_append, List.nil_append, List.cons.injEq, Prod.mk.injEq, and_true] at e0
          obtain ⟨⟨rfl, rfl⟩, ⟨rfl, rfl⟩, ⟨rfl, rfl⟩, ⟨rfl, rfl⟩⟩ := e0
          have N2 := due_led N1 ml mH mLL mCD mCL
          clear N1 ml mH mLL mCD mCL
          have nl := ne_cell N2 (.head _) (.tail _ (.tail _ (.tail _ (.head _)))) hdC
          have nH := ne_cell N2 (.tail _ (.head _)) (.tail _ (.tail _ (.tail _ (.head _)))) hdC
          have nLL := ne_cell N2 (.tail _ (.tail _ (.head _))) (.tail _ (.tail _ (.tail _ (.head _)))) hdC
          have hrz : row.length ≤ 17 := Nat.le_trans hr4 (by decide)
          have hrz2 : row.length ≤ 1000000 := Nat.le_trans hr4 (by decide)
          have hrS := (tame_hash hr4 hr32).small
          have hrS2 := row_small (k := row.length - (- -1 : Int).toNat) hr4 hr32
          have cT : CompWordT (DueWord row) := .mk
          k_steps
          · exact due_start
          · (rename CompWordT _ => cT)
            clear cT
            intro i v I oI C oC D m₂ ys1 h tk E' hi hv hR hC hx F3 N3 off ne
            obtain ⟨t2, rfl⟩ := hv
            simp only [LCg.Off3, and_true] at off
            obtain ⟨hi1, q0, q1, q2⟩ := idx_facts hi
            (rename Int.fmod _ 2 = 1 => ho)
            obtain ⟨hp, hl1, hl2⟩ := row_odd (g := dshaB) ho
            have hev : (row ++ row.drop (row.length - (- -1 : Int).toNat)).length % 2 = 0 := by omega
            have hnx := even_next hev hi1
            k_steps
            · exact due_yes hp hev hi1 hR (by with_reducible assumption) (by with_reducible assumption) (by with_reducible assumption)
            · exact due_no hR (by with_reducible assumption)
          · (rename CompWordT _ => cT)
            clear cT
            intro ys2 hR
            have hR2 := due_done hR (by rw [List.length_append]; exact Nat.le_add_right _ _)
            clear hR
            k_steps
            (rename Fr _ _ _ _ => F9)
            (rename News _ _ _ _ => N9)
            (rename Obj.data _ = Data.cell (some (Value.ref _)) => d9)
            (rename (1 : Int) < _ => hgt)
            obtain ⟨g1, g2, g3, g4⟩ := due_step hn hgt hr4 hmk
            refine while_end F9 N9 ⟨_, g1, _, _, _, _, _, _, _, _, _, _, _, _, pairF dshaB row, rfl, .head _, .tail _ (.tail _ (.tail _ (.tail _ (.head _)))), .tail _ (.tail _ (.tail _ (.tail _ (.tail _ (.head _))))), .tail _ (.tail _ (.tail _ (.tail _ (.tail _ (.tail _ (.head _)))))), .tail _ (.tail _ (.tail _ (.tail _ (.tail _ (.tail _ (.tail _ (.head _))))))), d9, hR2, rfl, g2, g3, pairF_dsha_size row, g4, rfl⟩
          · exact due_start
          · (rename CompWordT _ => cT)
            clear cT
            intro i v I oI C oC D m₂ ys1 h tk E' hi hv hR hC hx F3 N3 off ne
            obtain ⟨t2, rfl⟩ := hv
            simp only [LCg.Off3, and_true] at off
            obtain ⟨hi1, q0, q1, q2⟩ := idx_facts hi
            (rename Int.fmod _ 2 ≠ 1 => ho)
            have hev := row_even ho
            have hnx := even_next hev hi1
            k_steps
            · exact due_yes rfl hev hi1 hR (by with_reducible assumption) (by with_reducible assumption) (by with_reducible assumption)
            · exact due_no hR (by with_reducible assumption)
          · (rename CompWordT _ => cT)
            clear cT
            intro ys2 hR
            have hR2 := due_done hR (Nat.le_refl _)
            clear hR
            k_steps
            (rename Fr _ _ _ _ => F9)
            (rename News _ _ _ _ => N9)
            (rename Obj.data _ = Data.cell (some (Value.ref _)) => d9)
            (rename (1 : Int) < _ => hgt)
            obtain ⟨g1, g2, g3, g4⟩ := due_step hn hgt hr4 hmk
            refine while_end F9 N9 ⟨_, g1, _, _, _, _, _, _, _, _, _, _, _, _, pairF dshaB row, rfl, .head _, .tail _ (.tail _ (.head _)), .tail _ (.tail _ (.tail _ (.head _))), .tail _ (.tail _ (.tail _ (.tail _ (.head _)))), .tail _ (.tail _ (.tail _ (.tail _ (.tail _ (.head _))))), d9, hR2, rfl, g2, g3, pairF_dsha_size row, g4, rfl⟩)
end
end Mine
theorem PySem.Challenge.cw_fw0034_01_holds : PySem.Challenge.rw_fw0034_01.Holds := by
  exact Mine.law_done
