import PyProof.Rows.All
import Wide.All
import OpenK.AllK
import Wide.FinOn
import PySem.Challenge.RW_mq0063_01
set_option Elab.async false
set_option linter.all false
section
open PySem PySem.W PyProof.Rows
set_option Elab.async false
namespace Mine
set_option maxRecDepth 100000 in
set_option maxHeartbeats 8000000 in
open_top hd for PySem.Challenge.rw_mq0063_01
end Mine
end
section
open PySem PySem.W PyProof.Rows PySem.Calls
set_option Elab.async false
namespace Mine
open Builtin Builtin.Str
def find4 (x y : Str) (i j : Int) : Int := match occurrences x y (fromIndex x.length i) (min (fromIndex x.length j) x.length) 1 with | k :: _ => (k : Int) | [] => -1
def rfind4 (x y : Str) (i j : Int) : Int := match lastOccurrence x y (fromIndex x.length i) (min (fromIndex x.length j) x.length) with | some k => (k : Int) | none => -1
theorem gives_find4 (x y : Str) (i j : Int) (t u v v' : Tok) : Gives («str.find» ⟨[.str x t, .str y u, .int i v, .int j v'], []⟩) (.int (find4 x y i j)) := by
  show Gives (match occurrences x y (fromIndex x.length i) (min (fromIndex x.length j) x.length) 1 with | k :: _ => retInt k | [] => (do rule "str.find.not-found"; retInt (-1))) _
  unfold find4
  cases occurrences x y (fromIndex x.length i) (min (fromIndex x.length j) x.length) 1 with
  | nil => exact .rule (.of_eq rfl)
  | cons i _ => exact .of_eq rfl
theorem gives_rfind4 (x y : Str) (i j : Int) (t u v v' : Tok) : Gives («str.rfind» ⟨[.str x t, .str y u, .int i v, .int j v'], []⟩) (.int (rfind4 x y i j)) := by
  show Gives (match lastOccurrence x y (fromIndex x.length i) (min (fromIndex x.length j) x.length) with | some k => retInt k | none => (do rule "str.rfind.not-found"; retInt (-1))) _
  unfold rfind4
  cases lastOccurrence x y (fromIndex x.length i) (min (fromIndex x.length j) x.length) with
  | none => exact .rule (.of_eq rfl)
  | some i => exact .of_eq rfl
section
variable {prog : Program} {w : World} {A : Around} {E : Value → Shared → Prop} {s : Shared} {x y : Str} {t u v v' : Tok} {i j : Int} {Q : Value → Shared → Prop}
theorem call_find4 (hq : Q (.int (find4 x y i j) s.toks) { s with toks := s.toks + 1 }) : wpAny (model prog w) A (call (.builtin "str.find") [.str x t, .str y u, .int i v, .int j v']) Q E s :=
  call_gives F.slot_str_find (typeIs_str _ _ _) F.entry_str_find (F.args_str_find_4 _ _ _ _) (gives_find4 x y i j t u v v') hq
theorem call_rfind4 (hq : Q (.int (rfind4 x y i j) s.toks) { s with toks := s.toks + 1 }) : wpAny (model prog w) A (call (.builtin "str.rfind") [.str x t, .str y u, .int i v, .int j v']) Q E s :=
  call_gives F.slot_str_rfind (typeIs_str _ _ _) F.entry_str_rfind (F.args_str_rfind_4 _ _ _ _) (gives_rfind4 x y i j t u v v') hq
end
end Mine
end
section
open PySem PySem.W PyProof.Rows PySem.Calls
set_option Elab.async false
namespace Mine
def stripE (x : Str) : Int := if 0 ≤ Txt.find x (Str.ofString "\n") then Txt.find x (Str.ofString "\n") else x.length
def stripF (x : Str) : Str :=
  let e2 : Int := if 0 ≤ find4 x (Str.ofString ":") 0 (stripE x) then find4 x (Str.ofString ":") 0 (stripE x) else stripE x
  let b : Int := if 0 ≤ rfind4 x (Str.ofString ".") 0 e2 then rfind4 x (Str.ofString ".") 0 e2 + 1 else 0
  Txt.slice x (some b) (some e2)
section
variable {x : Str} {r : Int} (hr : 0 ≤ Txt.find x (Str.ofString "\n") ∧ r = Txt.find x (Str.ofString "\n") ∨ ¬0 ≤ Txt.find x (Str.ofString "\n") ∧ r = (x.length : Int))
include hr
theorem stripE_is : stripE x = r := by
  unfold stripE
  rcases hr with ⟨h, e⟩ | ⟨h, e⟩
  · rw [if_pos h, e]
  · rw [if_neg h, e]
theorem strip_a (h1 : 0 ≤ find4 x (Str.ofString ":") 0 r) (h2 : 0 ≤ rfind4 x (Str.ofString ".") 0 (find4 x (Str.ofString ":") 0 r)) :
    Txt.slice x (some (rfind4 x (Str.ofString ".") 0 (find4 x (Str.ofString ":") 0 r) + 1)) (some (find4 x (Str.ofString ":") 0 r)) = stripF x := by
  simp only [stripF, stripE_is hr, if_pos h1, if_pos h2]
theorem strip_b (h1 : 0 ≤ find4 x (Str.ofString ":") 0 r) (h2 : ¬ 0 ≤ rfind4 x (Str.ofString ".") 0 (find4 x (Str.ofString ":") 0 r)) :
    Txt.slice x (some 0) (some (find4 x (Str.ofString ":") 0 r)) = stripF x := by
  simp only [stripF, stripE_is hr, if_pos h1, if_neg h2]
theorem strip_cc (h1 : ¬ 0 ≤ find4 x (Str.ofString ":") 0 r) (h2 : 0 ≤ rfind4 x (Str.ofString ".") 0 r) :
    Txt.slice x (some (rfind4 x (Str.ofString ".") 0 r + 1)) (some r) = stripF x := by
  simp only [stripF, stripE_is hr, if_neg h1, if_pos h2]
theorem strip_d (h1 : ¬ 0 ≤ find4 x (Str.ofString ":") 0 r) (h2 : ¬ 0 ≤ rfind4 x (Str.ofString ".") 0 r) :
    Txt.slice x (some 0) (some r) = stripF x := by
  simp only [stripF, stripE_is hr, if_neg h1, if_neg h2]
end
/-- the shape of a contract -/
abbrev Ctr (f : Addr) (pre : Prop) (vs : List Value) (R : Tok → Value) : Prop :=
  ∀ (w : World) (mean : ExcName → Option Value) (mg mb : Str → Option Value) (news : List (Addr × Obj)),
    CbClaim PySem.Challenge.rw_mq0063_01.row.prog w (hd.heap_39 w.params) hd.view_39 (looseW hd.view_39 [Str.ofString "_norm_version"]) mean mg mb f news [] pre vs R
local macro_rules | `(tactic| walk_at "call builtin:str.find") => `(tactic| refine call_find4 ?_)
local macro_rules | `(tactic| walk_at "call builtin:str.rfind") => `(tactic| refine call_rfind4 ?_)
set_option maxRecDepth 100000 in
set_option maxHeartbeats 4000000 in
theorem strip_c (x : Str) (t : Tok) (hx : x.length ≤ 1000) : Ctr 29 True [.str x t] (fun t => .str (stripF x) t) := by
  intro w mean mg mb news
  w_on
  k_with_none
  w_strict (
  k_fill
  dsimp only [CbClaim, CbLists, CbRet]
  intro dp un gd cn cs a ccd cl outer A₀ base h₀ L m s Q E B F X N T hk hpre hdp hun hret
  refine wpAny_call ?_
  k_dflt cell_enter
  k_steps
  all_goals (
    refine' cb_retS (Q := Q) hret ?e1 ?e2 ?e3
    (case e2 => k_asm)
    (case e3 => first | k_asm | (refine' cb_drop ?cbN ?cbS; (case cbN => assumption); (case cbS => kcj_all)))
    (case e1 => with_reducible first | exact strip_a (by assumption) (by assumption) (by assumption) | exact strip_b (by assumption) (by assumption) (by assumption) | exact strip_cc (by assumption) (by assumption) (by assumption) | exact strip_d (by assumption) (by assumption) (by assumption))))
end Mine
end
section
open PySem PySem.W PyProof.Rows PySem.Calls
set_option Elab.async false
set_option maxRecDepth 100000
namespace Mine
open AutoSeq1 (wpAny_loadPart')
theorem slot_list_iadd : Slot "list" "__iadd__" "list.__iadd__" :=
  .of (owner := "list") (n := "__iadd__") (by rw [typeLookup_type, builtinLookup_eq_fast]; kernel_rfl) (by decide +kernel) (by decide +kernel) (by decide +kernel) (.inl (by decide +kernel)) (by rw [isSubtype_type]; kernel_rfl)
theorem args_list_iadd_2 (a b : Value) : argsOk "list.__iadd__" ⟨[a, b], []⟩ := by
  unfold argsOk
  rw [signature?_of (id := "list.__iadd__") (n := ['_', '_', 'd', 'd', 'a', 'i', '_', '_']) (o := ['t', 's', 'i', 'l']) (by kernel_rfl) PySem.F.owner_list]; kernel_rfl
theorem meets_iadd (l : Addr) (items : Array Value) (n : Nat) (b : Addr) (items2 : Array Value) (n2 : Nat) (hc0 : ¬(!items.isEmpty && Builtin.List.listTooLong (items.size + items2.size)) = true) (hc1 : items.size ≤ sizeLine) (hs2 : items.size + items2.size ≤ sizeLine + 1) :
    Meets (Builtin.«list.__iadd__» ⟨[.ref l, .ref b], []⟩) (fun _ R s => s.heap.get? l = some { cls := .type "list", dict := none, data := .seq items n, slots := #[] } ∧ s.heap.get? b = some { cls := .type "list", dict := none, data := .seq items2 n2, slots := #[] } ∧ R (.ok (.ret (.ref l))) { s with heap := s.heap.update l (Obj.mapSeq fun x => x ++ items2), toks := s.toks }) :=
  .of_wp fun prog w A R s h => by
    obtain ⟨hp, g, d, tk, os⟩ := s; obtain ⟨hl, hb, h⟩ := h; have f1 := AutoSeq1.idx_int; have f2 := AutoSeq1.sub_tuple_tuple; have f3 := AutoSeq1.sub_list_list; have f4 := AutoSeq1.sub_tuple_list; have f5 := AutoSeq1.sub_list_tuple;
    have hz' : (items ++ items2).size ≤ sizeLine + 1 := by rw [Array.size_append]; exact hs2
    wp_walk using (wpAny_updateSeq hl rfl (hz := hc1) (_hz' := hz')), wpAny_loadPart' hl, wpAny_loadPart' hb; exact ⟨_, rfl, h⟩
section
variable {prog : Program} {w : World} {A : Around} {E : Value → Shared → Prop} {s : Shared} {h₀ : Heap} {L D b : Addr} {m : Str → Option Value} {news news' : List (Addr × Obj)}
theorem inplace_iadd {a b : Value} {Q : Value → Shared → Prop} (ha : s.TypeIs a "list") (hb : s.TypeIs b "list")
    (hc : wpAny (model prog w) A (call (.builtin "list.__iadd__") [a, b]) Q E s) : wpAny (model prog w) A (inplaceOp .Add a b) Q E s := by
  unfold inplaceOp
  refine wpAny_holding ?_
  have hl : typeLookup (.type "list") (dunderI "add") = pure (some (.builtin "list.__iadd__")) := slot_list_iadd.lookup
  have hs : isSeqSlot (some (.builtin "list.__iadd__")) = true := by decide +kernel
  have hfi : fillsInplaceSlot (.type "list") "add" (Operator.Add == .Add) = pure false := by
    unfold fillsInplaceSlot
    show (typeLookup (.type "list") (dunderI "add") >>= fun fi => pure (fi.isSome && !isSeqSlot fi)) = pure false
    rw [hl]
    show (pure (true && !isSeqSlot (some (.builtin "list.__iadd__"))) : Sem Bool) = _
    rw [hs]; rfl
  have hsi : seqSlot? (.type "list") (dunderI "add") = pure (some (.builtin "list.__iadd__")) := PySem.seqSlot_of hl hs
  refine wpAny_bind (wpAny_typeOf ha (wpAny_bind (wpAny_of_eq hfi ?_)))
  show wpAny _ A (if false = true then _ else _) Q E s
  rw [if_neg Bool.false_ne_true]
  refine wpAny_bind (wpAny_binaryOp1_none (nm := "add") ha hb noFill_list_add ?_)
  refine wpAny_bind (wpAny_of_eq hsi ?_)
  exact wpAny_bind (wpAny_rule hc)
theorem iadd_K {its its2 : Array Value} {n n2 : Nat} {Q : Value → Shared → Prop} (F : Fr h₀ L s.heap m) (N : News h₀ L s.heap news) (hb : (b, listOf its2 n2) ∈ news)
    (U : Upd D (listOf its n) (listOf (its ++ its2) (if (its ++ its2).size == its.size then n else n + 1)) news news')
    (h : ∀ h', Fr h₀ L h' m → News h₀ L h' news' → Q (.ref D) { s with heap := h' }) (hsz : its.size + its2.size ≤ sizeLine) : wpAny (model prog w) A (inplaceOp .Add (.ref D) (.ref b)) Q E s := by
  have zb := N _ hb
  obtain ⟨pre, post, rfl, rfl, p1, p2⟩ := U.split
  have z := N (D, listOf its n) (List.mem_append.mpr (.inr (.head _)))
  refine inplace_iadd ⟨_, z.1, rfl⟩ ⟨_, zb.1, rfl⟩ (call_meets slot_list_iadd ⟨_, z.1, rfl⟩ PySem.F.entry_list_iadd (args_list_iadd_2 _ _)
    (meets_iadd D its n b its2 n2 (extend_door hsz) (Nat.le_trans (Nat.le_add_right _ _) hsz) (Nat.le_succ_of_le hsz)) ⟨z.1, zb.1, ?_⟩)
  have ho' : (s.heap.update D (Obj.mapSeq fun x => x ++ its2)).get? D = some (listOf (its ++ its2) (if (its ++ its2).size == its.size then n else n + 1)) := by
    rw [Heap.get?_update_self _ z.1 (by rw [mapSeq_app]; rfl), mapSeq_app]
  exact h _ (F.change (Heap.SameBut.update ..) z.2.1 z.2.2) (news_set N p1 p2 (Heap.SameBut.update ..) ho')
theorem news_isList {its : Array Value} {n : Nat} (N : News h₀ L s.heap news) (hm : (D, listOf its n) ∈ news) : s.heap.IsList D its := ⟨_, (N _ hm).1, rfl, n, rfl⟩
theorem strs_at {vs : List Value} {ss : List Str} (hS : StrsAre vs ss) {k : Nat} (hk : k < ss.length) : ∃ t, vs[k]? = some (.str (ss.getD k Str.empty) t) := by
  have e : ss[k]? = some (ss.getD k Str.empty) := by
    rw [List.getD_eq_getElem?_getD, List.getElem?_eq_getElem hk]; rfl
  exact hS.at e
theorem itemStr_K {value slice : PySem.Expr} {its : Array Value} {n : Nat} {ss : List Str} {k : Int} {u : Tok} {Q : Value → Shared → Prop} (N : News h₀ L s.heap news) (hm : (D, listOf its n) ∈ news)
    (hS : StrsAre its.toList ss) (h0 : 0 ≤ k) (h1 : k < (ss.length : Int)) (hz : ss.length ≤ sizeLine) (h : ∀ t, Q (.str (ss.getD k.toNat Str.empty) t) s)
    (hs : subscripted slice false (.ref D) (.int k u) = operate [.ref D, .int k u] (getItem (.ref D) (.int k u)) := by with_unfolding_all rfl) :
    wpAny (model prog w) A (subscriptTail value slice (.ref D) (.int k u)) Q E s := by
  have hl := news_isList N hm
  obtain ⟨t, ht⟩ := strs_at hS (k := k.toNat) (by omega)
  rw [sizeLine_eq] at hz
  exact tail_any hl.typeIs slot_list_getitem.lookup (wpAny_getItem_list hl h0 (by omega) (by rw [← Array.getElem?_toList]; exact ht) (h t)) hs
end
section
variable {prog : Program} {w : World} {A : Around} {E : Value → Shared → Prop} {s : Shared} {h₀ : Heap} {L D b : Addr} {m : Str → Option Value} {news news' : List (Addr × Obj)}
theorem eq_nilK {a b : Addr} {its : Array Value} {n n2 : Nat} {Q : Value → Shared → Prop} (N : News h₀ L s.heap news) (ha : (a, listOf its n) ∈ news) (hb : (b, listOf #[] n2) ∈ news) (hu : A.units < cLine)
    (h : Q (.bool (decide (its.size = 0))) s) : wpAny (model prog w) A (compareOp .Eq (.ref a) (.ref b)) Q E s := by
  have hl := news_isList N ha
  have hl' := news_isList N hb
  by_cases e : its.size = 0
  · refine SeqAt.eq_listAt (e := fun _ => true) hl hl' (by rw [e]; rfl) hu ?_ ?_
    · intro j h1 h2
      exact absurd h2 (by simp)
    · simpa [e] using h
  · refine SeqAt.eq_list_lengthsAt hl hl' (by simpa using e) hu ?_
    simpa [e] using h
theorem strs_set {x : Str} {u : Tok} : ∀ {vs : List Value} {ss : List Str}, StrsAre vs ss → ∀ j : Nat, StrsAre (vs.set j (.str x u)) (ss.set j x)
  | _, _, .nil, _ => .nil
  | _, _, .cons _ _ h, 0 => .cons x u h
  | _, _, .cons i t h, j + 1 => .cons i t (strs_set h j)
theorem appendStr_K {vs : List Value} {ss : List Str} {n : Nat} {y : Str} {t : Tok} {Q : Value → Shared → Prop} (F : Fr h₀ L s.heap m) (N : News h₀ L s.heap news)
    (U : Upd D (listOf vs.toArray n) (listOf (vs ++ [Value.str y t]).toArray (n + 1)) news news') (hS : StrsAre vs ss) (hz : ss.length ≤ sizeLine)
    (h : ∀ h', Fr h₀ L h' m → News h₀ L h' news' → StrsAre (vs ++ [Value.str y t]) (ss ++ [y]) → Q .none { s with heap := h' }) : wpAny (model prog w) A (call (.builtin "list.append") [.ref D, .str y t]) Q E s := by
  have e : (vs ++ [Value.str y t]).toArray = vs.toArray.push (.str y t) := by simp
  rw [e] at U
  have hz' : vs.length ≤ sizeLine := by rw [hS.length]; exact hz
  exact append_K F N U (fun h' F' N' => h h' F' N' (StrsAre.append' hS (.cons y t .nil))) (by rw [List.size_toArray]; exact hz')
theorem getLast_K {value slice : PySem.Expr} {vs : List Value} {ss : List Str} {n : Nat} {u : Tok} {Q : Value → Shared → Prop} (N : News h₀ L s.heap news) (hm : (D, listOf vs.toArray n) ∈ news)
    (hS : StrsAre vs ss) (hp : 0 < ss.length) (hz : ss.length ≤ sizeLine) (h : ∀ t, Q (.str (ss.getD (ss.length - 1) Str.empty) t) s)
    (hs : subscripted slice false (.ref D) (.int (-1) u) = operate [.ref D, .int (-1) u] (getItem (.ref D) (.int (-1) u)) := by with_unfolding_all rfl) :
    wpAny (model prog w) A (subscriptTail value slice (.ref D) (.int (-1) u)) Q E s := by
  have hl := news_isList N hm
  have hlen := hS.length
  obtain ⟨t, ht⟩ := strs_at hS (k := ss.length - 1) (by omega)
  rw [sizeLine_eq] at hz
  have e : ((-1 : Int) + (vs.toArray.size : Nat)).toNat = ss.length - 1 := by rw [List.size_toArray]; omega
  exact tail_any hl.typeIs slot_list_getitem.lookup (wpAny_getItem_list_neg hl (by decide) (by rw [List.size_toArray]; omega) (by decide) (by rw [e, List.getElem?_toArray]; exact ht) (h t)) hs
theorem setLast_K {vs : List Value} {ss : List Str} {n : Nat} {u tk : Tok} {x : Str} {Q : Unit → Shared → Prop} (F : Fr h₀ L s.heap m) (N : News h₀ L s.heap news)
    (U : Upd D (listOf vs.toArray n) (listOf (vs.set (vs.length - 1) (.str x u)).toArray n) news news') (hS : StrsAre vs ss) (hp : 0 < ss.length)
    (h : ∀ h', Fr h₀ L h' m → News h₀ L h' news' → StrsAre (vs.set (vs.length - 1) (.str x u)) (ss.set (ss.length - 1) x) → Q () { s with heap := h' }) :
    wpAny (model prog w) A (setItem (.ref D) (.int (-1) tk) (.str x u)) Q E s := by
  obtain ⟨pre, post, rfl, rfl, a, b⟩ := U.split
  have z := N (D, listOf vs.toArray n) (List.mem_append.mpr (.inr (.head _)))
  have hlen := hS.length
  have hq : StrsAre (vs.set (vs.length - 1) (.str x u)) (ss.set (ss.length - 1) x) := by rw [hlen]; exact strs_set hS _
  have e : ((-1 : Int) + (vs.toArray.size : Nat)).toNat = vs.length - 1 := by rw [List.size_toArray]; omega
  refine ki_setBack z.1 (by decide) (by rw [List.size_toArray]; omega) (by decide) (h _ (F.change (Heap.SameBut.update ..) z.2.1 z.2.2) (ki_turn _ N a b ?_ ?_) hq)
  · show vs.toArray.setIfInBounds _ (.str x u) = (vs.set (vs.length - 1) (.str x u)).toArray
    rw [e]
    apply Array.toList_inj.mp
    simp
  · simp
theorem bounds_nat (a b n : Nat) : sliceBounds (some (a : Int)) (some (b : Int)) none n = (((min a n : Nat) : Int), ((min b n : Nat) : Int), 1) := by
  simp only [sliceBounds, Option.getD_none]
  have h1 : ¬ ((a : Int) < 0) := by omega
  have h2 : ¬ ((b : Int) < 0) := by omega
  rw [if_neg h1, if_neg h2, if_pos (by decide), if_pos (by decide)]
  congr 1
  · omega
  · congr 1; omega
theorem bounds_upto (b n : Nat) : sliceBounds none (some (b : Int)) none n = (((0 : Nat) : Int), ((min b n : Nat) : Int), 1) := by
  simp only [sliceBounds, Option.getD_none]
  have h2 : ¬ ((b : Int) < 0) := by omega
  rw [if_neg h2, if_pos (by decide), if_pos (by decide)]
  congr 1
  congr 1; omega
theorem slice_pick (vs : List Value) (a b : Nat) : slicePick vs.toArray (some (a : Int)) (some (b : Int)) none = ((vs.drop a).take (b - a)).toArray := by
  rw [kmk_pick_nat vs.toArray (bounds_nat a b _)]
  congr 1
  show (vs.drop (min a vs.toArray.size)).take (min b vs.toArray.size - min a vs.toArray.size) = _
  rw [List.size_toArray, kmk_drop_min]
  apply List.take_eq_take_iff.mpr
  rw [List.length_drop]
  omega
theorem slice_upto (vs : List Value) (b : Nat) : slicePick vs.toArray none (some (b : Int)) none = (vs.take b).toArray := by
  rw [kmk_pick_nat vs.toArray (bounds_upto b _)]
  congr 1
  show (vs.drop 0).take (min b vs.toArray.size - 0) = _
  rw [List.size_toArray, Nat.sub_zero, List.drop_zero, kmk_take_min]
theorem sliceUpto_K {value slice : PySem.Expr} {l : Addr} {vs : List Value} {n : Nat} {vu : Value} {b : Nat} {Q : Value → Shared → Prop} (F : Fr h₀ L s.heap m) (N : News h₀ L s.heap news) (hm : (l, listOf vs.toArray n) ∈ news) (pu : IsPart vu (some (b : Int)))
    (h : ∀ D h', Fr h₀ L h' m → News h₀ L h' ((D, listOf (vs.take b).toArray 0) :: news) → (∀ p ∈ news, p.1 < D) → Q (.ref D) { s with heap := h' })
    (hs : subscripted slice false (.ref l) (.ref s.heap.objs.size) = operate [.ref s.heap.objs.size, .ref l] (getItem (.ref l) (.ref s.heap.objs.size))) (ht : ∀ r, letTemporaryGo value (.ref l) r = pure ()) (hz : vs.length ≤ sizeLine) :
    wpAny (model prog w) A (subscriptTail value slice (.ref l) (.ref s.heap.objs.size)) Q E { s with heap := s.heap.push { cls := .type "slice", data := .fields #[.none, vu, .none] } } := by
  refine kmk_slice F N (news_isList N hm) .none pu (fun D h' F' N' l1 => h D h' F' ?_ l1) hs ht (by rw [List.size_toArray]; exact hz)
  rw [slice_upto] at N'
  exact N'
theorem slice_K {value slice : PySem.Expr} {l : Addr} {vs : List Value} {n : Nat} {vl vu : Value} {a b : Nat} {Q : Value → Shared → Prop} (F : Fr h₀ L s.heap m) (N : News h₀ L s.heap news) (hm : (l, listOf vs.toArray n) ∈ news) (pl : IsPart vl (some (a : Int))) (pu : IsPart vu (some (b : Int)))
    (h : ∀ D h', Fr h₀ L h' m → News h₀ L h' ((D, listOf ((vs.drop a).take (b - a)).toArray 0) :: news) → (∀ p ∈ news, p.1 < D) → Q (.ref D) { s with heap := h' })
    (hs : subscripted slice false (.ref l) (.ref s.heap.objs.size) = operate [.ref s.heap.objs.size, .ref l] (getItem (.ref l) (.ref s.heap.objs.size))) (ht : ∀ r, letTemporaryGo value (.ref l) r = pure ()) (hz : vs.length ≤ sizeLine) :
    wpAny (model prog w) A (subscriptTail value slice (.ref l) (.ref s.heap.objs.size)) Q E { s with heap := s.heap.push { cls := .type "slice", data := .fields #[vl, vu, .none] } } := by
  refine kmk_slice F N (news_isList N hm) pl pu (fun D h' F' N' l1 => h D h' F' ?_ l1) hs ht (by rw [List.size_toArray]; exact hz)
  rw [slice_pick] at N'
  exact N'
theorem joinK {sep : Str} {t : Tok} {vs : List Value} {n : Nat} {ys : List Str} {Q : Value → Shared → Prop} (N : News h₀ L s.heap news) (hm : (D, listOf vs.toArray n) ∈ news) (hi : StrsAre vs ys) (hok : (ys.map (·.length)).sum + ys.length * sep.length ≤ 16777216)
    (h : ∀ t' k, Q (.str (Txt.join sep ys) t') { s with toks := k }) : wpAny (model prog w) A (call (.builtin "str.join") [.str sep t, .ref D]) Q E s :=
  join_list (news_isList N hm) (by simpa using hi) hok h
end
end Mine
end
section
open PySem PySem.W PyProof.Rows PySem.Calls
set_option Elab.async false
namespace Mine
abbrev figF (x : Int) : Str := Txt.item (Str.ofString "0123456789") ((x.fdiv 16).fmod 10)
abbrev piecesF (x : Int) : List Str := [Str.ofString "", figF x, figF x, Str.ofString "0" ++ figF x, Str.ofString "-" ++ figF x, Str.ofString " " ++ figF x, Str.ofString "1_" ++ figF x, Str.ofString "x"] ++
  [figF x, Str.ofString "_", Str.ofString "+", Str.ofString "-", Str.ofString " ", Str.ofString "\t", Str.ofString "x", Str.ofString "_" ++ figF x]
def pieceF (x : Int) : Str := (piecesF x).getD (x.fmod 16).toNat Str.empty
theorem mod16 (x : Int) : 0 ≤ x.fmod 16 ∧ x.fmod 16 < 16 := by
  rw [Int.fmod_eq_emod_of_nonneg x (by decide)]
  omega
set_option pp.maxSteps 400000
set_option pp.deepTerms false
set_option pp.deepTerms.threshold 6
local macro_rules | `(tactic| walk_at "inplaceOp Add ref ref") => `(tactic| (k_here; (with_reducible show wpAny _ _ (inplaceOp Operator.Add (Value.ref _) (Value.ref _)) _ _ _); k_dflt (refine' iadd_K ?F ?N ?b ?U ?_ ?z; (case F => k_asm); (case N => k_asm); (case b => k_mem); (case U => k_upd); (case z => (show (8 : Nat) + 8 ≤ sizeLine; decide)); k_whole; intro h' F' N'; (try dsimp only at N'); (try k_sweep))))
local macro_rules | `(tactic| walk_at "subscriptTail Name BinOp ref int") => `(tactic| (k_here; (with_reducible show wpAny _ _ (subscriptTail _ _ (Value.ref _) (Value.int _ _)) _ _ _); k_dflt (refine' itemStr_K ?N ?b ?S ?k0 ?k1 ?z ?_ ?w; (case N => k_asm); (case b => k_mem); (case S => (simp only [Array.toList_append]; exact StrsAre.append' (by repeat' constructor) (by repeat' constructor))); (case k0 => exact (mod16 _).1); (case k1 => exact (mod16 _).2); (case z => (show (16 : Nat) ≤ sizeLine; decide)); (case w => with_unfolding_all rfl); k_whole; intro t'; (try dsimp only))))
set_option maxRecDepth 100000 in
set_option maxHeartbeats 4000000 in
theorem piece_c (x : Int) (t : Tok) : Ctr 36 True [.int x t] (fun t => .str (pieceF x) t) := by
  intro w mean mg mb news
  w_on
  k_with_none
  w_strict (
  k_fill
  dsimp only [CbClaim, CbLists, CbRet]
  intro dp un gd cn cs a ccd cl outer A₀ base h₀ L m s Q E B F X N T hk hpre hdp hun hret
  refine wpAny_call ?_
  k_dflt cell_enter
  k_steps
  all_goals (
    refine' cb_retS (Q := Q) hret ?e1 ?e2 ?e3
    (case e2 => k_asm)
    (case e3 => first | k_asm | (refine' cb_drop ?cbN ?cbS; (case cbN => assumption); (case cbS => kcj_all)))
    (case e1 => exact rfl)))
/-- a contract, its premises apart -/
theorem Ctr.use {f : Addr} {vs : List Value} {R : Tok → Value} (C : Ctr f True vs R) {w : World} {mean : ExcName → Option Value} {mg mb : Str → Option Value} {news : List (Addr × Obj)}
    {dp un : Nat} {gd : Option (List Code)} {cn : Str} {cs : Scope} {a : Addr} {ccd : Value} {cl : List (Str × Addr)} {outer : List Env} {A₀ : Around} {base h₀ : Heap} {L : Addr} {m : Str → Option Value} {s : Shared} {Q E : Value → Shared → Prop}
    (B : Below A₀ base outer h₀) (F : Fr h₀ L s.heap m) (X : (hd.heap_39 w.params).In h₀) (N : News h₀ L s.heap news) (T : Top hd.view_39 (looseW hd.view_39 [Str.ofString "_norm_version"]) mean mg mb h₀) (hk : cs.kind = .function)
    (hdp : dp + 1 < recursionLimit) (hun : un + 8 < cLine) (hret : ∀ (t : Tok) (h' : Heap) (tk' : Nat), Fr h₀ L h' m → News h₀ L h' news → Q (R t) { s with heap := h', toks := tk' }) :
    wpAny (model PySem.Challenge.rw_mq0063_01.row.prog w) (ktrTop dp un gd cn cs L a ccd cl outer) (call (.ref f) vs) Q E s :=
  C w mean mg mb news dp un gd cn cs a ccd cl outer A₀ base h₀ L m s Q E B F X N T hk trivial hdp hun hret
end Mine
end
section
open PySem PySem.W PyProof.Rows PySem.Calls
set_option Elab.async false
namespace Mine
def rowOpen (parts : List Str) (x : Int) : List Str := if x.fmod 16 < 8 ∨ parts = [] then parts ++ [Str.ofString ""] else parts
def rowLay (ps : List Str) (x : Int) : List Str := ps.set (ps.length - 1) (ps.getD (ps.length - 1) Str.empty ++ pieceF x)
def rowStep (parts : List Str) (x : Int) : List Str := rowLay (rowOpen parts x) x
def rowF (ns : List Int) : List Str := ns.foldl rowStep []
theorem rev_ind {α : Type} {P : List α → Prop} (nil : P []) (snoc : ∀ l a, P l → P (l ++ [a])) (l : List α) : P l := by
  rw [← List.reverse_reverse l]
  generalize l.reverse = r
  induction r with
  | nil => exact nil
  | cons a r ih => rw [List.reverse_cons]; exact snoc _ _ ih
theorem rowF_snoc (pre : List Int) (x : Int) : rowF (pre ++ [x]) = rowStep (rowF pre) x := by simp [rowF, List.foldl_append]
theorem rowOpen_ne (parts : List Str) (x : Int) : rowOpen parts x ≠ [] := by
  unfold rowOpen
  split
  · simp
  · rename_i h; exact fun e => h (Or.inr e)
theorem rowStep_len (parts : List Str) (x : Int) : (rowStep parts x).length = (rowOpen parts x).length := by simp [rowStep, rowLay]
theorem rowStep_ne (parts : List Str) (x : Int) : rowStep parts x ≠ [] := by
  intro e
  have h := rowStep_len parts x
  rw [e] at h
  exact rowOpen_ne parts x (List.length_eq_zero_iff.mp h.symm)
theorem rowOpen_len (parts : List Str) (x : Int) : (rowOpen parts x).length ≤ parts.length + 1 := by
  unfold rowOpen
  split
  · simp
  · omega
theorem rowF_len (pre : List Int) : (rowF pre).length ≤ pre.length := by
  induction pre using rev_ind with
  | nil => simp [rowF]
  | snoc pre x ih =>
    rw [rowF_snoc, rowStep_len]
    have := rowOpen_len (rowF pre) x
    simp only [List.length_append, List.length_cons, List.length_nil]
    omega
theorem figF_len (x : Int) : (figF x).length = 1 := by
  unfold figF
  have h : ∀ k : Fin 10, (Txt.item (Str.ofString "0123456789") (k.val : Int)).length = 1 := by decide +kernel
  have e := Int.fmod_eq_emod_of_nonneg (x.fdiv 16) (b := 10) (by decide)
  have h0 : 0 ≤ (x.fdiv 16).fmod 10 ∧ (x.fdiv 16).fmod 10 < 10 := by rw [e]; omega
  have := h ⟨((x.fdiv 16).fmod 10).toNat, by omega⟩
  rwa [show (((⟨((x.fdiv 16).fmod 10).toNat, by omega⟩ : Fin 10).val : Nat) : Int) = (x.fdiv 16).fmod 10 from by show (((x.fdiv 16).fmod 10).toNat : Int) = _; omega] at this
theorem pieceF_len (x : Int) : (pieceF x).length ≤ 3 := by
  have hf := figF_len x
  have h0 : (Str.ofString "").length = 0 := by decide +kernel
  have h1 : (Str.ofString "0").length = 1 := by decide +kernel
  have h2 : (Str.ofString "-").length = 1 := by decide +kernel
  have h3 : (Str.ofString " ").length = 1 := by decide +kernel
  have h4 : (Str.ofString "1_").length = 2 := by decide +kernel
  have h5 : (Str.ofString "x").length = 1 := by decide +kernel
  have h6 : (Str.ofString "_").length = 1 := by decide +kernel
  have h7 : (Str.ofString "+").length = 1 := by decide +kernel
  have h8 : (Str.ofString "\t").length = 1 := by decide +kernel
  have hall : ∀ p ∈ piecesF x, p.length ≤ 3 := by
    intro p hp
    simp only [piecesF, List.cons_append, List.nil_append, List.mem_cons, List.not_mem_nil, or_false] at hp
    rcases hp with h | h | h | h | h | h | h | h | h | h | h | h | h | h | h | h <;> subst h <;> (try rw [Str.length_append]) <;> omega
  unfold pieceF
  rw [List.getD_eq_getElem?_getD]
  cases h : (piecesF x)[(x.fmod 16).toNat]? with
  | none => show (0 : Nat) ≤ 3; decide
  | some p => exact hall p (List.mem_of_getElem? h)
theorem getD_mem_or {ss : List Str} {k : Nat} {n : Nat} (h : ∀ p ∈ ss, p.length ≤ n) : (ss.getD k Str.empty).length ≤ n := by
  rw [List.getD_eq_getElem?_getD]
  cases e : ss[k]? with
  | none => exact Nat.zero_le _
  | some p => exact h p (List.mem_of_getElem? e)
theorem rowOpen_parts {parts : List Str} {n : Nat} (h : ∀ p ∈ parts, p.length ≤ n) (x : Int) : ∀ p ∈ rowOpen parts x, p.length ≤ n := by
  intro p hp
  unfold rowOpen at hp
  split at hp
  · rcases List.mem_append.mp hp with hp | hp
    · exact h p hp
    · rw [List.mem_singleton.mp hp]
      have h0 : (Str.ofString "").length = 0 := by decide +kernel
      omega
  · exact h p hp
theorem rowF_parts (pre : List Int) : ∀ p ∈ rowF pre, p.length ≤ 3 * pre.length := by
  induction pre using rev_ind with
  | nil => simp [rowF]
  | snoc pre x ih =>
    intro p hp
    rw [rowF_snoc] at hp
    have h2 := rowOpen_parts ih x
    unfold rowStep rowLay at hp
    simp only [List.length_append, List.length_cons, List.length_nil]
    rcases List.mem_or_eq_of_mem_set hp with hp | hp
    · have := h2 p hp
      omega
    · rw [hp, Str.length_append]
      have h3 := getD_mem_or (k := (rowOpen (rowF pre) x).length - 1) h2
      have h4 := pieceF_len x
      omega
section
variable {ss : List Str} {pre : List Int} {x : Int}
theorem row_ends {ps : List Str} (he : rowOpen (rowF pre) x = ps) :
    ps.set (ps.length - 1) (ps.getD (ps.length - 1) Str.empty ++ pieceF x) = rowF (pre ++ [x]) ∧ (ps.set (ps.length - 1) (ps.getD (ps.length - 1) Str.empty ++ pieceF x)).length ≤ (pre ++ [x]).length := by
  have e : ps.set (ps.length - 1) (ps.getD (ps.length - 1) Str.empty ++ pieceF x) = rowF (pre ++ [x]) := by
    rw [rowF_snoc, rowStep, rowLay, he]
  exact ⟨e, by rw [e]; exact rowF_len _⟩
theorem row_open1 (hi : ss = rowF pre) (h : x.fmod 16 < 8) : rowOpen (rowF pre) x = ss ++ [Str.ofString ""] := by
  rw [hi, rowOpen, if_pos (Or.inl h)]
theorem row_open2 (hi : ss = rowF pre) (h : ss = []) : rowOpen (rowF pre) x = ss ++ [Str.ofString ""] := by
  rw [← hi, rowOpen, if_pos (Or.inr h)]
theorem row_open3 (hi : ss = rowF pre) (h : ¬ x.fmod 16 < 8) (h2 : ss ≠ []) : rowOpen (rowF pre) x = ss := by
  rw [← hi, rowOpen, if_neg (fun e => e.elim h h2)]
end
end Mine
end
section
open PySem PySem.W PyProof.Rows PySem.Calls
set_option Elab.async false
namespace Mine
set_option pp.maxSteps 400000
set_option pp.deepTerms false
set_option pp.deepTerms.threshold 6
theorem row_size {ss : List Str} {pre : List Int} {x : Int} {k : Nat} {ps : List Str} (hi : ss = rowF pre) (he : ps = ss ∨ ps = ss ++ [Str.ofString ""]) (hp : pre.length ≤ 14) : (ps.getD k Str.empty).length + (pieceF x).length ≤ sizeLine := by
  have h1 := rowF_parts pre
  rw [← hi] at h1
  have h4 := pieceF_len x
  have h0 : (Str.ofString "").length = 0 := by decide +kernel
  have h2 : ∀ p ∈ ps, p.length ≤ 3 * pre.length := by
    intro p hq
    rcases he with rfl | rfl
    · exact h1 p hq
    · rcases List.mem_append.mp hq with hq | hq
      · exact h1 p hq
      · rw [List.mem_singleton.mp hq]; omega
  have h3 := getD_mem_or (k := k) h2
  rw [sizeLine_eq]
  omega
theorem of_allLt {d : Addr} : ∀ {l : List (Addr × Obj)}, AllLt d l → ∀ p ∈ l, p.1 < d
  | [], _, _, hp => nomatch hp
  | _ :: _, h, _, .head _ => h.1
  | _ :: _, h, p, .tail _ hp => of_allLt h.2 p hp
theorem of_allLt2 {d D : Addr} {o : Obj} {l : List (Addr × Obj)} (h : @LT.lt Nat _ D d ∧ AllLt d l) : ∀ p ∈ ((D, o) :: l), p.1 < d := of_allLt (l := (D, o) :: l) h
theorem strs_cast {vs : List Value} {a b : List Str} (h : StrsAre vs a) (e : a = b) : StrsAre vs b := e ▸ h
theorem row_pos {vs : List Value} {ss : List Str} (hl : vs.length = ss.length) (h : ¬ vs.toArray.size = 0) : 0 < ss.length := by
  rw [List.size_toArray] at h; omega
abbrev RowEnd (ps : List Str) (pre : List Int) (x : Int) : Prop := ps.set (ps.length - 1) (ps.getD (ps.length - 1) Str.empty ++ pieceF x) = rowF (pre ++ [x]) ∧ (ps.set (ps.length - 1) (ps.getD (ps.length - 1) Str.empty ++ pieceF x)).length ≤ (pre ++ [x]).length
theorem row_end1 {ss : List Str} {pre : List Int} {x : Int} (hi : ss = rowF pre) (h : x.fmod 16 < 8) : RowEnd (ss ++ [Str.ofString ""]) pre x := row_ends (row_open1 hi h)
theorem row_end2 {vs : List Value} {ss : List Str} {pre : List Int} {x : Int} (hi : ss = rowF pre) (hl : vs.length = ss.length) (h : vs.toArray.size = 0) : RowEnd (ss ++ [Str.ofString ""]) pre x :=
  row_ends (row_open2 (x := x) hi (List.length_eq_zero_iff.mp (by rw [List.size_toArray] at h; omega)))
theorem row_end3 {vs : List Value} {ss : List Str} {pre : List Int} {x : Int} (hi : ss = rowF pre) (h0 : ¬ x.fmod 16 < 8) (hl : vs.length = ss.length) (h : ¬ vs.toArray.size = 0) : RowEnd ss pre x :=
  row_ends (row_open3 hi h0 (fun e => by rw [List.size_toArray, hl, e] at h; exact h rfl))
local macro_rules | `(tactic| walk_at "call ref") => `(tactic| (k_here; (with_reducible show wpAny _ _ (call (Value.ref 36) [Value.int _ _]) _ _ _); k_dflt (refine' Ctr.use (piece_c _ _) ?B ?F ?X ?N ?T ?hk ?dp ?un ?_; (case B => k_asm); (case F => k_asm); (case X => k_asm); (case N => k_asm); (case T => k_asm); (case hk => first | exact rfl | assumption); (case dp => ktr_room); (case un => ktr_units); k_whole; intro t9 h9 tk9 F9 N9; (try dsimp only); (try k_fold))))
local macro_rules | `(tactic| walk_at "compareOp Eq ref ref") => `(tactic| (k_here; (with_reducible show wpAny _ _ (compareOp CmpOp.Eq (Value.ref _) (Value.ref _)) _ _ _); k_dflt (refine' eq_nilK ?N ?a ?b ?u ?_; (case N => k_asm); (case b => k_mem); (case a => k_mem); (case u => units_room); k_whole)))
local macro_rules | `(tactic| walk_at "call builtin:list.append") => `(tactic| (k_here; k_dflt (refine' appendStr_K ?F ?N ?U ?S ?z ?_; (case F => k_asm); (case N => k_asm); (case U => k_upd); (case S => with_reducible assumption); (case z => (rw [sizeLine_eq]; omega)); k_whole; intro h' F' N' S'; (try dsimp only at N'); (try k_sweep))))
local macro_rules | `(tactic| walk_at "subscriptTail") => `(tactic| (k_here; (with_reducible show wpAny _ _ (subscriptTail _ _ (Value.ref _) (Value.int _ _)) _ _ _); k_dflt (refine' getLast_K ?N ?b ?S ?k0 ?z ?_ ?w; (case N => k_asm); (case b => k_mem); (case S => with_reducible assumption); (case k0 => first | (simp only [List.length_append, List.length_cons, List.length_nil]; omega) | exact row_pos (by with_reducible assumption) (by with_reducible assumption)); (case z => (rw [sizeLine_eq]; (try simp only [List.length_append, List.length_cons, List.length_nil]); omega)); (case w => with_unfolding_all rfl); k_whole; intro t'; (try dsimp only))))
local macro_rules | `(tactic| walk_at "binaryOp Add str str") => `(tactic| (k_here; (with_reducible show wpAny _ _ (binaryOp Operator.Add (Value.str (List.getD _ _ _) _) (Value.str (pieceF _) _)) _ _ _); (refine' SB.add ?_ ?hsz; (case hsz => exact row_size (by with_reducible assumption) (by first | exact Or.inl rfl | exact Or.inr rfl) (by omega)); intro t' k'; (try dsimp only))))
local macro_rules | `(tactic| walk_at "setItem ref int") => `(tactic| (k_here; (with_reducible show wpAny _ _ (setItem (Value.ref _) (Value.int _ _) (Value.str _ _)) _ _ _); k_dflt (refine' setLast_K ?F ?N ?U ?S ?k0 ?_; (case F => k_asm); (case N => k_asm); (case U => k_upd); (case S => with_reducible assumption); (case k0 => first | (simp only [List.length_append, List.length_cons, List.length_nil]; omega) | exact row_pos (by with_reducible assumption) (by with_reducible assumption)); k_whole; intro h' F' N' S'; (try dsimp only at N'); (try k_sweep))))
set_option maxRecDepth 100000 in
set_option maxHeartbeats 4000000 in
theorem row_c {w : World} {mean : ExcName → Option Value} {mg mb : Str → Option Value} {news : List (Addr × Obj)} {D : Addr} {ys : List Value} {ns : List Int}
    {dp un : Nat} {gd : Option (List Code)} {cn : Str} {cs : Scope} {a : Addr} {ccd : Value} {cl : List (Str × Addr)} {outer : List Env} {A₀ : Around} {base h₀ : Heap} {L : Addr} {m : Str → Option Value} {s : Shared} {Q E : Value → Shared → Prop}
    (B : Below A₀ base outer h₀) (F : Fr h₀ L s.heap m) (X : (hd.heap_39 w.params).In h₀) (N : News h₀ L s.heap ((D, LCg.lst ys) :: news)) (T : Top hd.view_39 (looseW hd.view_39 [Str.ofString "_norm_version"]) mean mg mb h₀) (hk : cs.kind = .function)
    (hdp : dp + 2 < recursionLimit) (hun : un + 100 < cLine) (hI : IntsAre ys ns) (hlen : ns.length ≤ 14)
    (hret : ∀ (l : Addr) (h' : Heap) (tk' : Nat) (vs : List Value) (n' : Nat), Fr h₀ L h' m → News h₀ L h' ((l, listOf vs.toArray n') :: (D, LCg.lst ys) :: news) → (∀ p ∈ ((D, LCg.lst ys) :: news), p.1 < l) → StrsAre vs (rowF ns) → Q (.ref l) { s with heap := h', toks := tk' }) :
    wpAny (model PySem.Challenge.rw_mq0063_01.row.prog w) (ktrTop dp un gd cn cs L a ccd cl outer) (call (.ref 43) [.ref D]) Q E s := by
  w_on
  k_with_none
  k_with "pyIter ref" => k_state (fun pre parts => parts = rowF pre ∧ parts.length ≤ pre.length) "parts$"
  k_with "state" => (with_reducible first | exact row_end1 (by assumption) (by assumption) | exact row_end3 (by assumption) (by assumption) (by assumption) (by assumption) | exact row_end2 (by assumption) (by assumption) (by assumption))
  w_strict (
  revert X; k_fill; intro X
  refine wpAny_call ?_
  k_dflt cell_enter
  k_steps
  exact hret _ _ _ _ _ (by k_asm) (by k_asm) (by with_reducible exact of_allLt2 (by assumption)) (by with_reducible exact strs_cast (by assumption) (by assumption)))
end Mine
end
section
set_option Elab.async false
set_option maxRecDepth 100000
namespace Mine
open PySem PySem.W PyProof.Rows PySem.Calls
open Sem (wp)
/-- between here and the next frame of the text there is a call of map.__next__ -/
def UnderMap (l : List Code) : Prop := ∃ pre a post, l = pre ++ Code.builtin "map.__next__" a :: post ∧ ∀ c ∈ pre, c.env? = none
theorem UnderMap.cons {c : Code} {l : List Code} (h : UnderMap l) (hc : c.env? = none) : UnderMap (c :: l) := by
  obtain ⟨pre, a, post, rfl, hp⟩ := h
  refine ⟨c :: pre, a, post, rfl, fun c' h' => ?_⟩
  rcases List.mem_cons.mp h' with rfl | h'
  · exact hc
  · exact hp c' h'
theorem takeWhile_pre {α : Type} (p : α → Bool) : ∀ (pre : List α) (x : α) (post : List α), (∀ c ∈ pre, p c = true) → p x = true → ∃ r, (pre ++ x :: post).takeWhile p = pre ++ x :: r
  | [], x, post, _, hx => ⟨post.takeWhile p, by simp [List.takeWhile_cons, hx]⟩
  | c :: pre, x, post, h, hx => by
    obtain ⟨r, hr⟩ := takeWhile_pre p pre x post (fun c' h' => h c' (.tail _ h')) hx
    exact ⟨r, by rw [List.cons_append, List.takeWhile_cons, if_pos (h c (.head _)), hr]; rfl⟩
theorem UnderMap.not_made {l : List Code} (h : UnderMap l) : pythonCodeMadeTheCall ["int.__new__"] l = false := by
  obtain ⟨pre, a, post, rfl, hp⟩ := h
  obtain ⟨r, hr⟩ := takeWhile_pre (fun c : Code => c.env?.isNone) pre (.builtin "map.__next__" a) post (fun c hc => by rw [hp c hc]; rfl) rfl
  unfold pythonCodeMadeTheCall
  rw [hr, List.all_append, List.all_cons]
  have h1 : ["int.__new__"].contains "map.__next__" = false := by decide
  have h2 : ("map.__next__" == "type.__call__") = false := by decide
  simp only [h1, h2, Bool.false_or, Bool.false_and, Bool.and_false]
section
variable {α β : Type}
def wpC (M : Model) (A : Around) (t : Sem α) (Q : α → Shared → Prop) (E : Value → Shared → Prop) (s : Shared) : Prop :=
  ∀ Γ p, Γ.In A → UnderMap (Γ.code :: Γ.below.map (·.1)) → wp M Γ t (fun a _ s' => Q a s') (fun e _ s' => E e s') p s
def codeC (M : Model) (A : Around) (c : Code) (R : Result → Shared → Prop) (s : Shared) : Prop :=
  ∀ Γ p, Γ.code = c → Γ.Below A → UnderMap (Γ.below.map (·.1)) → wpCode M Γ R p s
variable {M : Model} {A : Around} {E : Value → Shared → Prop} {s : Shared}
theorem wpC_of {t : Sem α} {Q : α → Shared → Prop} (h : wpAny M A t Q E s) : wpC M A t Q E s := fun Γ p hΓ _ => h Γ p hΓ
theorem wpC_pure {a : α} {Q : α → Shared → Prop} (h : Q a s) : wpC M A (pure a) Q E s := fun _ _ _ _ => h
theorem wpC_bind {m : Sem α} {f : α → Sem β} {Q : β → Shared → Prop} (h : wpC M A m (fun a s' => wpC M A (f a) Q E s') E s) : wpC M A (m >>= f) Q E s := fun Γ p hΓ hu => by
  rw [Sem.wp_bind']
  exact Sem.wp_mono M Γ m (fun a p' s' h' => h' Γ p' hΓ hu) (fun _ _ _ h' => h') p s (h Γ p hΓ hu)
theorem wpC_any {m : Sem α} {f : α → Sem β} {Q : β → Shared → Prop} (h : wpAny M A m (fun a s' => wpC M A (f a) Q E s') E s) : wpC M A (m >>= f) Q E s := wpC_bind (wpC_of h)
theorem wpC_eq {m : Sem α} {a : α} {f : α → Sem β} {Q : β → Shared → Prop} (e : m = pure a) (h : wpC M A (f a) Q E s) : wpC M A (m >>= f) Q E s := by
  rw [e]; exact wpC_bind (wpC_pure h)
theorem wpC_holding {vs : List Value} {m : Sem α} {Q : α → Shared → Prop} (h : wpC M A m Q E s) : wpC M A (holding vs m) Q E s :=
  fun Γ p hΓ hu => by rw [Sem.wp_holding]; exact h Γ p hΓ hu
theorem wpC_mono {t : Sem α} {Q Q' : α → Shared → Prop} {E' : Value → Shared → Prop} (h : wpC M A t Q E s)
    (hQ : ∀ a s, Q a s → Q' a s) (hE : ∀ e s, E e s → E' e s) : wpC M A t Q' E' s :=
  fun Γ p hΓ hu => Sem.wp_mono M Γ t (fun a _ s => hQ a s) (fun e _ s => hE e s) p s (h Γ p hΓ hu)
theorem wpC_call {f : Value} {pos : List Value} {kw : List (Str × Value)} {Q : Value → Shared → Prop}
    (hc : codeC M A (.call f ⟨pos, kw⟩) (fun r s' => match r with | .ok (.ret v) => Q v s' | .ok _ => False | .error e => E e s') s) :
    wpC M A (call f pos kw) Q E s := fun Γ p hΓ hu => by
  show wp M Γ (runValue _) _ _ p s
  rw [Sem.wp_runValue]
  exact hc _ p rfl (hΓ.enter _ none p (by intro x; cases x)) hu
theorem codeC_of_tree {c : Code} {R : Result → Shared → Prop} (hc0 : c.env? = none)
    (h : wpC M (A.under c) (M.den c) (fun fin s' => match fin with | .done f => R (.ok f) s' | .again c' => c'.quiet = true ∧ codeC M A c' R s')
      (fun e s' => R (.error e) s') s) : codeC M A c R s := fun Γ p hc hΓ hu => by
  rw [wpCode_iff_wp, hc]
  refine Sem.wp_mono M Γ _ (fun fin p' s' h' => ?_) (fun _ _ _ h' => h') p s (h Γ p (hc ▸ hΓ.in) (by rw [hc]; exact hu.cons hc0))
  cases fin with
  | done f => exact h'
  | again c' => exact ⟨h'.1, h'.2 (Γ.goto c') p' rfl (hΓ.goto c') hu⟩
theorem den_eq {id : String} {args : Args} {b : Builtin} {prog : Program} {w : World} (hb : entryFor table id = some b) : (model prog w).den (.builtin id args) = b args := by
  show (match entryFor table id with | some b => b args | none => unsupported ((withoutEnding? id "#data").getD id)) = _
  rw [hb]
/-- the body of map.__next__ itself -/
theorem codeAny_map_next {R : Result → Shared → Prop} {prog : Program} {w : World} {args : Args} (hb : entryFor table "map.__next__" = some Builtin.«map.__next__») (hp : plainId "map.__next__" = true)
    (h : wpC (model prog w) A.in1 (Builtin.«map.__next__» args) (fun fin s' => match fin with | .done f => R (.ok f) s' | .again _ => False) (fun e s' => R (.error e) s') s) :
    codeAny (model prog w) A (.builtin "map.__next__" args) R s := fun Γ p hc hΓ => by
  rw [wpCode_iff_wp, hc]
  rw [den_eq hb]
  have hin : Γ.In A.in1 := by
    have := hΓ.in
    rwa [hc, Around.under_plainId hp] at this
  refine Sem.wp_mono _ Γ _ (fun fin p' s' h' => ?_) (fun _ _ _ h' => h') p s (h Γ p hin (by rw [hc]; exact ⟨[], args, _, rfl, fun _ h => nomatch h⟩))
  cases fin with
  | done f => exact h'
  | again c' => exact h'.elim
theorem wpC_mark {e : Value} {Q : Unit → Shared → Prop} (h : Q () s) : wpC M A (markTheRefusal ["int.__new__"] e) Q E s := fun Γ p hΓ hu => by
  unfold markTheRefusal
  show wp M Γ (stack >>= _) _ _ p s
  rw [Sem.wp_bind']
  show wp M Γ (Sem.stack .pure) _ _ p s
  rw [Sem.wp_stack, Sem.wp_pure]
  have hm := hu.not_made
  rw [List.map_cons, hm]
  exact h
end
end Mine
end
section
set_option Elab.async false
set_option maxRecDepth 100000
namespace Mine
open PySem PySem.W PyProof.Rows PySem.Calls PySem.NumText
open Sem (wp)
section
variable {prog : Program} {w : World} {A : Around} {E : Value → Shared → Prop} {s : Shared}
/-- what follows where the text is no number -/
theorem bad_tail {α : Type} {x : Str} {t : Tok} {Q : α → Shared → Prop} {msg : Str → Str} (hh : A.handled = none) (hx : (reprText x).length ≤ sizeLine) (hm : ∀ y, (msg y).length ≤ sizeLine)
    (hE : ∀ h' tk e, Heap.NewExc s.heap h' e "ValueError" → E (.ref e) { s with heap := h', toks := tk }) :
    wpC (model prog w) A (pyRepr (.str x t) >>= fun shown => mkStr (msg shown) >>= fun m => newExc (.type "ValueError") [m] >>= fun refusal => markTheRefusal ["int.__new__"] refusal >>= fun _ => (raiseNew refusal : Sem α)) Q E s := by
  refine wpC_any (wpAny_pyRepr_str ?_ hx)
  refine wpC_any (wpAny_mkStr ?_ (hm _))
  refine wpC_any (wpAny_newExc_plain plainExc_ValueError ?_)
  intro h' e he
  refine wpC_bind (wpC_mark ?_)
  exact wpC_of (wpAny_raiseNew_none hh (hE _ _ _ he.newExc))
abbrev litMsg (y : Str) : Str := Str.ofString (toString "invalid literal for int() with base " ++ toString 10 ++ toString ": ") ++ (⟨y.cps.extract 0 200⟩ : Str)
abbrev badTree (v : Value) : Sem Value := rule "int.__new__.invalid-literal" >>= fun _ => pyRepr v >>= fun shown => mkStr (litMsg shown) >>= fun m => newExc (.type "ValueError") [m] >>= fun refusal => markTheRefusal ["int.__new__"] refusal >>= fun _ => (raiseNew refusal : Sem Value)
theorem ift (x : Str) (t : Tok) (text : List Nat) : ∃ K0 K1 : Sem Value, (int_private% "intFromText") (.str x t) text 10 = (if (text.takeWhile (· != 0)).length ≤ 640 then K0 else K1) ∧
    (((int_private% "readNumeral") 0 10 (text.takeWhile (· != 0)) = int_private% "Numeral.invalid" ∨ ∃ i, (int_private% "readNumeral") 0 10 (text.takeWhile (· != 0)) = (int_private% "Numeral.value") i ∧ ¬ ((text.takeWhile (· != 0)).length == text.length) = true) →
      K0 = badTree (.str x t)) := by
  refine ⟨_, _, rfl, fun h => ?_⟩
  simp only [pure_bind]
  rcases h with h | ⟨i, h, h2⟩
  · rw [h]; rfl
  · rw [h]
    dsimp only
    rw [if_neg h2]; rfl
theorem text_bad {x : Str} {t : Tok} {Q : Value → Shared → Prop} (hh : A.handled = none) (hl : x.length ≤ 640) (hx : (reprText x).length ≤ sizeLine) (hn : PySem.intText? x = none)
    (hE : ∀ h' tk e, Heap.NewExc s.heap h' e "ValueError" → E (.ref e) { s with heap := h', toks := tk }) :
    wpC (model prog w) A ((int_private% "intFromText") (.str x t) (numTextOf x) 10) Q E s := by
  have hs : (numSeenOf x).length ≤ 640 := Nat.le_trans (seen_length x) hl
  have hm : ∀ y : Str, (litMsg y).length ≤ sizeLine := by
    intro y
    rw [Str.length_append, sizeLine_eq]
    have h1 : (Str.ofString (toString "invalid literal for int() with base " ++ toString 10 ++ toString ": ")).length ≤ 100 := by decide +kernel
    have h2 : (⟨y.cps.extract 0 200⟩ : Str).length ≤ 200 := by
      show (y.cps.extract 0 200).size ≤ 200
      rw [Array.size_extract]; omega
    omega
  obtain ⟨K0, K1, e, h0⟩ := ift x t (numTextOf x)
  have hr : K0 = badTree (.str x t) := by
    refine h0 ?_
    rcases read0 x hs with ⟨n, h1, _⟩ | ⟨_, h1⟩
    · rw [hn] at h1; cases h1
    · exact h1
  rw [e, if_pos hs, hr]
  exact wpC_any (wpAny_rule (bad_tail hh hx hm hE))
end
end Mine
end
section
set_option Elab.async false
set_option maxRecDepth 100000
namespace Mine
open PySem PySem.W PyProof.Rows PySem.Calls PySem.NumText
open Sem (wp)
theorem special_none {name : Str} {x : Str} {t : Tok} (h : typeLookup (.type "str") name = pure none) : specialOf (.str x t) name = pure none := h
theorem callSpecial_none {name : Str} {x : Str} {t : Tok} (h : typeLookup (.type "str") name = pure none) : callSpecial? (.str x t) name = pure none := by
  show (specialOf (.str x t) name >>= _) = _
  rw [special_none h]; rfl
theorem ifo_parts (x : Str) (t : Tok) : ∃ K1, (int_private% "intFromObject") (.str x t) = (callSpecial? (.str x t) "__int__" >>= K1) ∧ ∃ K2, K1 none = (specialOf (.str x t) "__index__" >>= K2) ∧
    ∃ K3, K2 none = (specialOf (.str x t) "__trunc__" >>= K3) ∧ K3 none = (int_private% "intFromText") (.str x t) (numTextOf x) 10 := ⟨_, rfl, _, rfl, _, rfl, rfl⟩
theorem ifo_eq (x : Str) (t : Tok) : (int_private% "intFromObject") (.str x t) = (int_private% "intFromText") (.str x t) (numTextOf x) 10 := by
  obtain ⟨K1, e1, K2, e2, K3, e3, e4⟩ := ifo_parts x t
  rw [e1, callSpecial_none KIN.str_int, pure_bind, e2, special_none KIN.str_idx, pure_bind, e3, special_none KIN.str_trunc, pure_bind, e4]
theorem inew_parts (x : Str) (t : Tok) : ∃ K1, Builtin.«int.__new__» ⟨[.type "int", .str x t], []⟩ = (isSubtype (.type "int") (.type "int") >>= K1) ∧ ∃ K2, K1 true = (Bind.madeHere "int.__new__" (.type "int") >>= K2) ∧
    ∃ K3, K2 () = ((int_private% "intFromObject") (.str x t) >>= K3) := ⟨_, rfl, _, rfl, _, rfl⟩
theorem inew_eq (x : Str) (t : Tok) : ∃ K3, Builtin.«int.__new__» ⟨[.type "int", .str x t], []⟩ = ((int_private% "intFromText") (.str x t) (numTextOf x) 10 >>= K3) := by
  obtain ⟨K1, e1, K2, e2, K3, e3⟩ := inew_parts x t
  refine ⟨K3, ?_⟩
  rw [e1, F.conv_sub_int, pure_bind, e2, F.madeHere_int, pure_bind, e3, ifo_eq]
def decidesNew (t : String) : Option Bool := (Manifest.find? t).bind fun b => if b.noNew then some true else if b.attrs.any (·.1 == "__new__") then some false else none
theorem tcall_eq (args : List Value) (hct : checkTypeCall "int" ⟨args, []⟩ = pure ()) : ∃ K5, Builtin.«type.__call__» ⟨.type "int" :: args, []⟩ = (holding [.builtin "int.__new__"] (call (.builtin "int.__new__") (.type "int" :: args) []) >>= K5) := by
  obtain ⟨c, tl, hm⟩ := F.called_int.mro
  have h1 := F.called_int.notType
  have h2 := F.called_int.canCreate
  have h3 := F.called_int.made
  unfold Builtin.«type.__call__»
  simp only [h1, h2, h3, hct, hm, Bool.false_eq_true, if_false, pure_bind, List.isEmpty_cons]
  exact ⟨_, rfl⟩
section
variable {prog : Program} {w : World} {A : Around} {E : Value → Shared → Prop} {s : Shared}
theorem codeC_call_builtin {id : String} {args : Args} {b : Builtin} {R : Result → Shared → Prop} (hq : plainId id = true) (hb : entryFor table id = some b) (hc : checkBuiltinCall id args = pure ())
    (h : wpC (model prog w) A.in1 (b args) (fun fin s' => match fin with | .done f => R (.ok f) s' | .again c' => c'.quiet = true ∧ codeC (model prog w) A c' R s') (fun e s' => R (.error e) s') s) :
    codeC (model prog w) A (.call (.builtin id) args) R s := by
  refine codeC_of_tree rfl ?_
  rw [Around.under_plain (A := A) (c := Code.call (.builtin id) args) rfl rfl]
  show wpC _ _ (checkBuiltinCall id args >>= fun _ => again (.builtin id args)) _ _ _
  refine wpC_eq hc (wpC_pure ⟨plainId_quiet hq args, codeC_of_tree rfl ?_⟩)
  rw [Around.under_plainId hq args, den_eq hb]
  exact h
/-- int(text) where the text is no number, called out of map.__next__ -/
theorem int_bad {x : Str} {t : Tok} {Q : Value → Shared → Prop} (hh : A.handled = none) (hl : x.length ≤ 640) (hx : (reprText x).length ≤ sizeLine) (hn : PySem.intText? x = none)
    (hE : ∀ h' tk e, Heap.NewExc s.heap h' e "ValueError" → E (.ref e) { s with heap := h', toks := tk }) :
    wpC (model prog w) A (call (.type "int") [.str x t]) Q E s := by
  refine wpC_call (codeC_of_tree rfl ?_)
  rw [Around.under_plain (A := A) (c := Code.call (.type "int") ⟨[.str x t], []⟩) rfl rfl]
  show wpC _ _ (callAny (.type "int") _) _ _ _
  refine wpC_pure ⟨Code.quiet_builtin _ (by decide +kernel), codeC_of_tree rfl ?_⟩
  rw [Around.under_plain (weight_type_call_type "int" [.str x t] []) (units_type_call_type "int" [.str x t] []), den_eq F.entry_type_call]
  obtain ⟨K5, e5⟩ := tcall_eq [.str x t] (F.typeCall_int_1 _)
  rw [e5]
  refine wpC_bind (wpC_holding (wpC_call (codeC_call_builtin F.called_int.plain F.entry_int_new (F.newCall_int_1 _) ?_)))
  obtain ⟨K3, e3⟩ := inew_eq x t
  rw [e3]
  exact wpC_bind (text_bad hh hl hx hn hE)
end
end Mine
end
section
set_option Elab.async false
set_option maxRecDepth 100000
namespace Mine
open PySem PySem.W PyProof.Rows PySem.Calls PySem.NumText
open Sem (wp)
theorem mro_map : mroOf (.type "map") = pure [.type "map", .type "object"] := by rw [mroOf_type]; kernel_rfl
theorem sub_map : isSubtype (.type "map") (.type "map") = pure true := by rw [isSubtype_type]; kernel_rfl
theorem owner_map : Manifest.owners.lookup (String.ofList ['p', 'a', 'm'].reverse) = some (Manifest.owners.lookup "map").get! := by kernel_rfl
theorem slot_map_next : Slot "map" "__next__" "map.__next__" :=
  .of (owner := "map") (n := "__next__") (by rw [typeLookup_type, builtinLookup_eq_fast]; kernel_rfl) (by decide +kernel) (by decide +kernel) (by decide +kernel)
    (by first | exact .inl (by decide +kernel) | exact .inr (by decide +kernel)) (by rw [isSubtype_type]; kernel_rfl)
theorem slot_map_iter : Slot "map" "__iter__" "map.__iter__" :=
  .of (owner := "map") (n := "__iter__") (by rw [typeLookup_type, builtinLookup_eq_fast]; kernel_rfl) (by decide +kernel) (by decide +kernel) (by decide +kernel)
    (by first | exact .inl (by decide +kernel) | exact .inr (by decide +kernel)) (by rw [isSubtype_type]; kernel_rfl)
theorem slot_map_init : Slot "map" "__init__" "object.__init__" :=
  .of (owner := "object") (n := "__init__") (by rw [typeLookup_type, builtinLookup_eq_fast]; kernel_rfl) (by decide +kernel) (by decide +kernel) (by decide +kernel)
    (by first | exact .inl (by decide +kernel) | exact .inr (by decide +kernel)) (by rw [isSubtype_type]; kernel_rfl)
theorem args_map_next_1 (a : Value) : argsOk "map.__next__" ⟨[a], []⟩ := by
  unfold argsOk; rw [signature?_of (id := "map.__next__") (n := ['_', '_', 't', 'x', 'e', 'n', '_', '_']) (o := ['p', 'a', 'm']) (by kernel_rfl) owner_map]; kernel_rfl
theorem args_map_iter_1 (a : Value) : argsOk "map.__iter__" ⟨[a], []⟩ := by
  unfold argsOk; rw [signature?_of (id := "map.__iter__") (n := ['_', '_', 'r', 'e', 't', 'i', '_', '_']) (o := ['p', 'a', 'm']) (by kernel_rfl) owner_map]; kernel_rfl
theorem entry_map_next : entryFor table "map.__next__" = some Builtin.«map.__next__» := entryFor_of_tree (by kernel_rfl)
theorem plain_map_next : plainId "map.__next__" = true := by decide +kernel
theorem entry_map_iter : entryFor table "map.__iter__" = some Builtin.«dict_keyiterator.__iter__» :=
  entryFor_alias (id' := "dict_keyiterator.__iter__") (by kernel_rfl) (by first | rfl | decide +kernel | (unfold String.splitOn; simp +decide [String.splitOnAux])) (by decide +kernel) (by kernel_rfl)
theorem lookup_map_new : typeLookup (.type "map") "__new__" = pure (some (.builtin "map.__new__")) := by rw [typeLookup_type, builtinLookup_eq_fast]; kernel_rfl
theorem called_map : TypeCalled "map" "map.__new__" "object.__init__" :=
  ⟨by decide +kernel, by decide +kernel, ⟨_, _, mro_map⟩, madeBy_type mro_map lookup_map_new (by decide +kernel), by decide +kernel, by rw [isSubtype_type]; kernel_rfl, slot_map_init⟩
theorem typeCall_map_2 (a b : Value) : checkTypeCall "map" ⟨[a, b], []⟩ = pure () := by kernel_rfl
theorem newCall_map_2 (a b : Value) : checkBuiltinCall "map.__new__" ⟨[.type "map", a, b], []⟩ = pure () := by kernel_rfl
theorem entry_map_new : entryFor table "map.__new__" = some Builtin.«map.__new__» := entryFor_of_tree (by kernel_rfl)
theorem map_no_len : typeLookup (.type "map") "__len__" = pure none := by rw [typeLookup_type, builtinLookup_eq_fast]; kernel_rfl
theorem map_no_hint : typeLookup (.type "map") "__length_hint__" = pure none := by rw [typeLookup_type, builtinLookup_eq_fast]; kernel_rfl
abbrev IsMap (h : Heap) (m T : Addr) (f : Value) : Prop := h.get? m = some { cls := .type "map", data := .fields #[.ref T, f] }
abbrev IsOne (h : Heap) (T : Addr) (a : Value) : Prop := h.get? T = some { cls := .type "tuple", data := .seq #[a] }
end Mine
end
section
set_option Elab.async false
set_option maxRecDepth 100000
namespace Mine
open PySem PySem.W PyProof.Rows PySem.Calls PySem.NumText
open Sem (wp)
section
variable {prog : Program} {w : World} {A : Around} {E : Value → Shared → Prop} {s : Shared}
theorem map_next_body {m T it : Addr} {f : Value} {Q : Value → Shared → Prop} (hm : IsMap s.heap m T f) (hT : IsOne s.heap T (.ref it))
    (h : wpC (model prog w) A (Builtin.SmallTypes.nextOf (.ref it)) (fun x s₁ => IsMap s₁.heap m T f ∧ wpC (model prog w) A (call f [x]) Q E s₁) E s) :
    wpC (model prog w) A (Builtin.«map.__next__» ⟨[.ref m], []⟩) (fun fin s' => match fin with | .done (.ret v) => Q v s' | _ => False) E s := by
  show wpC _ _ (field (.ref m) 0 >>= _) _ _ _
  refine wpC_any (wpAny_field hm rfl (x := .ref T) rfl ?_)
  refine wpC_any (wpAny_seqItems hT rfl ?_)
  simp only [List.forIn_toArray, List.forIn_cons, List.forIn_nil]
  refine wpC_bind (wpC_bind (wpC_bind (wpC_holding (wpC_mono h ?_ (fun _ _ e => e)))))
  intro x s₁ h₁
  obtain ⟨hm₁, h₁⟩ := h₁
  refine wpC_pure ?_
  refine wpC_pure ?_
  refine wpC_any (wpAny_field hm₁ rfl (x := f) rfl ?_)
  refine wpC_bind (wpC_holding (wpC_mono h₁ ?_ (fun _ _ e => e)))
  intro v s₂ hq
  exact wpC_any (wpAny_letGo (wpC_pure hq))
theorem call_map_next {m : Addr} {Q : Value → Shared → Prop} (hT : s.TypeIs (.ref m) "map")
    (h : wpC (model prog w) A.in1 (Builtin.«map.__next__» ⟨[.ref m], []⟩) (fun fin s' => match fin with | .done (.ret v) => Q v s' | _ => False) E s) :
    wpAny (model prog w) A (call (.builtin "map.__next__") [.ref m]) Q E s := by
  refine wpAny_call (codeAny_call_builtin_code (plainId_quiet plain_map_next _) (slot_map_next.check _ _ _ _ _ _ _ _ hT (args_map_next_1 _) (codeAny_map_next entry_map_next plain_map_next (wpC_mono h ?_ fun _ _ e => e))))
  intro fin s' hq
  cases fin with
  | done f => cases f with
    | ret v => exact hq
    | _ => exact hq.elim
  | again c => exact hq.elim
theorem nextOf_map {m : Addr} {Q : Value → Shared → Prop} (hT : s.TypeIs (.ref m) "map")
    (h : wpC (model prog w) A.in1 (Builtin.«map.__next__» ⟨[.ref m], []⟩) (fun fin s' => match fin with | .done (.ret v) => Q v s' | _ => False) E s) :
    wpAny (model prog w) A (Builtin.SmallTypes.nextOf (.ref m)) Q E s := by
  unfold Builtin.SmallTypes.nextOf
  refine wpAny_bind (wpAny_callSpecial?_slot (name := Str.ofString "__next__") hT slot_map_next (wpAny_mono (call_map_next hT h) (fun v s' hq => ?_) fun _ _ e => e))
  exact wpAny_pure hq
theorem pyNext_map {m : Addr} {Q : Option Value → Shared → Prop} (hT : s.TypeIs (.ref m) "map")
    (h : wpC (model prog w) A.in1 (Builtin.«map.__next__» ⟨[.ref m], []⟩) (fun fin s' => match fin with | .done (.ret v) => Q (some v) s' | _ => False)
      (fun e s' => wpAny (model prog w) A (isInstance e (.type "StopIteration")) (fun b s'' => if b = true then Q none s'' else E e s'') E s') s) :
    wpAny (model prog w) A (pyNext (.ref m)) Q E s := by
  unfold pyNext
  refine wpAny_bind (wpAny_attempt (wpAny_callSpecial?_slot (name := Str.ofString "__next__") hT slot_map_next (wpAny_mono (call_map_next hT h) (fun v s' hq => ?_) fun e s' he => ?_)))
  · exact wpAny_pure hq
  · refine wpAny_bind (wpAny_mono he (fun b s'' hb => ?_) fun _ _ e => e)
    cases b with
    | true => exact wpAny_pure hb
    | false => exact wpAny_throw hb
theorem pyIter_map {m T : Addr} {f : Value} {Q : Value → Shared → Prop} (hm : IsMap s.heap m T f) (h : Q (.ref m) s) : wpAny (model prog w) A (pyIter (.ref m)) Q E s := by
  have hT : s.TypeIs (.ref m) "map" := ⟨_, hm, rfl⟩
  refine wpAny_pyIter_slot hT slot_map_iter (wpAny_call_entry slot_map_iter hT entry_map_iter ?_ (args_map_iter_1 _))
  show wpAny _ _ (ret (.ref m)) _ _ s
  exact wpAny_pure ⟨_, rfl, "map", _, hT, slot_map_next.lookup, h⟩
end
end Mine
end
section
set_option Elab.async false
set_option maxRecDepth 100000
namespace Mine
open PySem PySem.W PyProof.Rows PySem.Calls PySem.NumText
open Sem (wp)
structure TwoMaps (h : Heap) (m1 T1 m2 T2 i l : Addr) (k : Nat) (xs : Array Value) : Prop where
  a1 : IsMap h m1 T1 (.type "str")
  a2 : IsOne h T1 (.ref m2)
  a3 : IsMap h m2 T2 (.type "int")
  a4 : IsOne h T2 (.ref i)
  it : h.IsListIter i l k
  ls : h.IsList l xs
theorem iter_ne {h : Heap} {i l a : Addr} {k : Nat} {o : Obj} {c : String} (hi : h.IsListIter i l k) (ha : h.get? a = some o) (hc : o.cls = .type c) (hn : c ≠ "list_iterator") : a ≠ i := by
  intro e
  obtain ⟨o', ho', hc', _⟩ := hi
  rw [e, ho'] at ha
  cases ha
  rw [hc] at hc'
  cases hc'
  exact hn rfl
theorem list_ne {h : Heap} {i l : Addr} {k : Nat} {xs : Array Value} (hi : h.IsListIter i l k) (hl : h.IsList l xs) : l ≠ i := by
  obtain ⟨o, ho, hc, _⟩ := hl
  exact iter_ne hi ho hc (by decide)
section
variable {h h' : Heap} {m1 T1 m2 T2 i l : Addr} {k k' : Nat} {xs : Array Value}
theorem TwoMaps.step (D : TwoMaps h m1 T1 m2 T2 i l k xs) (hk : ∀ b o, b ≠ i → h.get? b = some o → h'.get? b = some o) (hi : h'.IsListIter i l k') : TwoMaps h' m1 T1 m2 T2 i l k' xs :=
  ⟨hk _ _ (iter_ne D.it D.a1 rfl (by decide)) D.a1, hk _ _ (iter_ne D.it D.a2 rfl (by decide)) D.a2, hk _ _ (iter_ne D.it D.a3 rfl (by decide)) D.a3, hk _ _ (iter_ne D.it D.a4 rfl (by decide)) D.a4, hi,
    D.ls.at fun o e => hk _ o (list_ne D.it D.ls) e⟩
theorem TwoMaps.keeps (D : TwoMaps h m1 T1 m2 T2 i l k xs) (hk : ∀ b o, h.get? b = some o → (o.cls = .type "map" ∨ o.cls = .type "tuple" ∨ o.cls = .type "list_iterator" ∨ b = l) → h'.get? b = some o) : TwoMaps h' m1 T1 m2 T2 i l k xs := by
  refine ⟨hk _ _ D.a1 (.inl rfl), hk _ _ D.a2 (.inr (.inl rfl)), hk _ _ D.a3 (.inl rfl), hk _ _ D.a4 (.inr (.inl rfl)), ?_, D.ls.at fun o e => hk _ o e (.inr (.inr (.inr rfl)))⟩
  obtain ⟨o, ho, hc, r⟩ := D.it
  exact ⟨o, hk _ _ ho (.inr (.inr (.inl hc))), hc, r⟩
end
theorem sub_ve_stop : isSubtype (.type "ValueError") (.type "StopIteration") = pure false := by rw [isSubtype_type]; kernel_rfl
section
variable {prog : Program} {w : World} {A : Around} {E : Value → Shared → Prop} {s : Shared} {m1 T1 m2 T2 i l : Addr} {k : Nat} {xs : Array Value}
theorem step_ok {x : Str} {t : Tok} {n : Int} {Q : Option Value → Shared → Prop} (D : TwoMaps s.heap m1 T1 m2 T2 i l k xs) (hx : xs[k]? = some (.str x t)) (hn : PySem.intText? x = some n) (hl : x.length ≤ 640) (hlog : n.natAbs.log2 < 1920)
    (hQ : ∀ h' tk tok, TwoMaps h' m1 T1 m2 T2 i l (k + 1) xs → (∀ b o, b ≠ i → s.heap.get? b = some o → h'.get? b = some o) → Q (some (.str (Str.ofString (toString n)) tok)) { s with heap := h', toks := tk }) :
    wpAny (model prog w) A (pyNext (.ref m1)) Q E s := by
  refine pyNext_map ⟨_, D.a1, rfl⟩ (map_next_body D.a1 D.a2 (wpC_of (nextOf_map ⟨_, D.a3, rfl⟩ (map_next_body D.a3 D.a4 (wpC_of (wpAny_nextOf_list_item D.it D.ls hx fun h' hit' hsb => ?_))))))
  have D' : TwoMaps h' m1 T1 m2 T2 i l (k + 1) xs := D.step (fun b o hb e => hsb.extBut b o hb e) hit'
  refine ⟨D'.a3, wpC_of (KIN.call_text hn hl ⟨D'.a1, wpC_of (P.str_of_int hlog ?_)⟩)⟩
  exact hQ h' _ _ D' fun b o hb e => hsb.extBut b o hb e
theorem step_end {Q : Option Value → Shared → Prop} (hh : A.handled = none) (D : TwoMaps s.heap m1 T1 m2 T2 i l k xs) (hx : xs[k]? = none)
    (hQ : ∀ h', (∀ b o, b ≠ i → s.heap.get? b = some o → h'.get? b = some o) → Q none { s with heap := h' }) :
    wpAny (model prog w) A (pyNext (.ref m1)) Q E s := by
  refine pyNext_map ⟨_, D.a1, rfl⟩ (map_next_body D.a1 D.a2 (wpC_of (nextOf_map ⟨_, D.a3, rfl⟩ (map_next_body D.a3 D.a4 (wpC_of (wpAny_nextOf_list_end hh D.it D.ls hx fun h' e hk he => ?_))))))
  obtain ⟨o, ho, hc⟩ := he
  refine wpAny_isInstance (T := "StopIteration") (b := true) ⟨o, ho, hc⟩ isSubtype_stop ?_
  exact hQ h' fun b o hb e => hk b o hb e
theorem step_bad {x : Str} {t : Tok} {Q : Option Value → Shared → Prop} (hh : A.handled = none) (D : TwoMaps s.heap m1 T1 m2 T2 i l k xs) (hx : xs[k]? = some (.str x t)) (hn : PySem.intText? x = none) (hl : x.length ≤ 640) (hr : (reprText x).length ≤ sizeLine)
    (hE : ∀ h' tk e, (∀ b o, b ≠ i → s.heap.get? b = some o → h'.get? b = some o) → s.heap.get? e = none → (∃ ob t, h'.get? e = some ob ∧ ob.cls = .type "ValueError" ∧ ob.data = .fields #[t, .none, .none, .none, .bool false, .none]) → E (.ref e) { s with heap := h', toks := tk }) :
    wpAny (model prog w) A (pyNext (.ref m1)) Q E s := by
  refine pyNext_map ⟨_, D.a1, rfl⟩ (map_next_body D.a1 D.a2 (wpC_of (nextOf_map ⟨_, D.a3, rfl⟩ (map_next_body D.a3 D.a4 (wpC_of (wpAny_nextOf_list_item D.it D.ls hx fun h₁ hit' hsb => ?_))))))
  have D' : TwoMaps h₁ m1 T1 m2 T2 i l (k + 1) xs := D.step (fun b o hb e => hsb.extBut b o hb e) hit'
  refine ⟨D'.a3, int_bad hh hl hr hn fun h' tk e he => ?_⟩
  obtain ⟨ob, t', h1, h2, h3⟩ := he.there
  refine wpAny_isInstance (T := "ValueError") (b := false) ⟨ob, h1, h2⟩ sub_ve_stop ?_
  refine hE h' tk e (fun b o hb e => he.keeps b o (hsb.extBut b o hb e)) ?_ ⟨ob, t', h1, h2, h3⟩
  cases q : s.heap.get? e with
  | none => rfl
  | some o =>
    have hnew := he.new
    by_cases hei : e = i
    · obtain ⟨o', ho', _⟩ := hit'
      rw [hei, ho'] at hnew; cases hnew
    · rw [hsb.extBut e o hei q] at hnew; cases hnew
end
end Mine
end
section
set_option Elab.async false
set_option maxRecDepth 100000
namespace Mine
open PySem PySem.W PyProof.Rows PySem.Calls PySem.NumText
open Sem (wp)
def plainT (x : Str) : Option Str := (PySem.intText? x).map fun n => Str.ofString (toString n)
def allPlain : List Str → Option (List Str)
  | [] => some []
  | x :: r => (plainT x).bind fun y => (allPlain r).map (y :: ·)
structure Fit (x : Str) : Prop where
  len : x.length ≤ 640
  rep : (reprText x).length ≤ sizeLine
  log : ∀ n, PySem.intText? x = some n → n.natAbs.log2 < 1920
  txt : ∀ n, PySem.intText? x = some n → (Str.ofString (toString n)).length ≤ 1000
theorem allPlain_len : ∀ {ss ts : List Str}, (∀ x ∈ ss, Fit x) → allPlain ss = some ts → ∀ t ∈ ts, t.length ≤ 1000
  | [], ts, _, h, t, ht => by cases h; exact nomatch ht
  | x :: r, ts, hf, h, t, ht => by
    simp only [allPlain] at h
    cases hp : plainT x with
    | none => rw [hp] at h; cases h
    | some y =>
      cases hr : allPlain r with
      | none => rw [hp, hr] at h; cases h
      | some ys =>
        rw [hp, hr] at h
        cases h
        rcases List.mem_cons.mp ht with rfl | ht
        · unfold plainT at hp
          cases hn : PySem.intText? x with
          | none => rw [hn] at hp; cases hp
          | some n => rw [hn] at hp; cases hp; exact (hf x (.head _)).txt n hn
        · exact allPlain_len (fun z hz => hf z (.tail _ hz)) hr t ht
abbrev IsVE (h : Heap) (e : Addr) : Prop := ∃ ob t, h.get? e = some ob ∧ ob.cls = .type "ValueError" ∧ ob.data = .fields #[t, .none, .none, .none, .bool false, .none]
theorem drop_head {xs : List Value} {k : Nat} {x : Str} {r : List Str} (h : StrsAre (xs.drop k) (x :: r)) : ∃ t, xs[k]? = some (.str x t) ∧ StrsAre (xs.drop (k + 1)) r := by
  obtain ⟨t, vs', e, h'⟩ := StrsAre.cons_inv h
  refine ⟨t, ?_, ?_⟩
  · have := congrArg (fun l => l[0]?) e
    simpa using this
  · have := congrArg (fun l => l.drop 1) e
    simp only [List.drop_drop, List.drop_succ_cons, List.drop_zero] at this
    rw [show k + 1 = 1 + k from Nat.add_comm .., ← Nat.add_comm k 1, this]; exact h'
section
variable {prog : Program} {w : World} {A : Around} {R : Result → Shared → Prop} {m1 T1 m2 T2 i l S : Addr} {xs : Array Value}
theorem loop_maps (hh : A.handled = none) (hSl : S ≠ l) (res : Value) : ∀ (rest : List Str) (k : Nat) (s : Shared) (acc : List Value) (c : Nat), StrsAre (xs.toList.drop k) rest → TwoMaps s.heap m1 T1 m2 T2 i l k xs →
    s.heap.get? S = some (listOf acc.toArray c) → (∀ x ∈ rest, Fit x) → acc.length + rest.length ≤ 1000 →
    (∀ ts, allPlain rest = some ts → ∀ h' tk vs c', (∀ b o, b ≠ S → b ≠ i → s.heap.get? b = some o → h'.get? b = some o) → h'.get? S = some (listOf (acc ++ vs).toArray c') → StrsAre vs ts → R (.ok (.ret res)) { s with heap := h', toks := tk }) →
    (allPlain rest = none → ∀ h' tk e, (∀ b o, b ≠ S → b ≠ i → s.heap.get? b = some o → h'.get? b = some o) → s.heap.get? e = none → IsVE h' e → R (.error (.ref e)) { s with heap := h', toks := tk }) →
    codeAny (model prog w) A (.builtin "list.extend.loop" ⟨[.ref S, .ref m1, res], []⟩) R s := by
  intro rest
  induction rest with
  | nil =>
    intro k s acc c hst D hS hfit hz hok _
    have hx : xs[k]? = none := by
      have := StrsAre.nil_inv hst
      rw [← Array.getElem?_toList]
      exact List.getElem?_eq_none (List.drop_eq_nil_iff.mp this)
    have hSi : S ≠ i := iter_ne D.it hS rfl (by decide)
    refine codeAny_builtin F.entry_extend_loop ?_
    rw [Around.under_plainId F.plain_extend_loop _]
    show wpAny _ A.in1 (pyNext (.ref m1) >>= _) _ _ s
    refine wpAny_bind (step_end hh D hx fun h' hk => ?_)
    refine wpAny_pure (hok [] rfl h' s.toks [] c (fun b o _ hb e => hk b o hb e) ?_ .nil)
    rw [List.append_nil]
    exact hk _ _ hSi hS
  | cons x r ih =>
    intro k s acc c hst D hS hfit hz hok hbad
    obtain ⟨t, hx, hst'⟩ := drop_head hst
    rw [Array.getElem?_toList] at hx
    have hSi : S ≠ i := iter_ne D.it hS rfl (by decide)
    have fx := hfit x (.head _)
    refine codeAny_builtin F.entry_extend_loop ?_
    rw [Around.under_plainId F.plain_extend_loop _]
    show wpAny _ A.in1 (pyNext (.ref m1) >>= _) _ _ s
    cases hn : PySem.intText? x with
    | none =>
      have hp : allPlain (x :: r) = none := by simp [allPlain, plainT, hn]
      exact wpAny_bind (step_bad hh D hx hn fx.len fx.rep fun h' tk e hk hnew hve => hbad hp h' tk e (fun b o _ hb e => hk b o hb e) hnew hve)
    | some n =>
      refine wpAny_bind (step_ok D hx hn fx.len (fx.log n hn) fun h' tk tok D' hk => ?_)
      have hS' := hk _ _ hSi hS
      show wpAny _ A.in1 (updateSeq S (·.push (.str (Str.ofString (toString n)) tok)) >>= _) _ _ _
      have hzz : acc.length + (r.length + 1) ≤ 1000 := hz
      refine wpAny_bind (wpAny_updateSeq hS' rfl (wpAny_pure ⟨plainId_quiet F.plain_extend_loop _, ?_⟩) (by rw [List.size_toArray, sizeLine_eq]; omega) (by rw [Array.size_push, List.size_toArray, sizeLine_eq]; omega))
      have hupd : (h'.update S (Obj.mapSeq (·.push (.str (Str.ofString (toString n)) tok)))).get? S = some (listOf (acc ++ [Value.str (Str.ofString (toString n)) tok]).toArray (c + 1)) := by
        rw [Heap.get?_update_self _ hS' rfl]
        simp [Obj.mapSeq]
      have hoth : ∀ b o, b ≠ S → h'.get? b = some o → (h'.update S (Obj.mapSeq (·.push (.str (Str.ofString (toString n)) tok)))).get? b = some o :=
        fun b o hb e => (Heap.get?_update_other _ _ (Ne.symm hb)).trans e
      refine ih (k + 1) { s with heap := h'.update S (Obj.mapSeq (·.push (.str (Str.ofString (toString n)) tok))), toks := tk } (acc ++ [Value.str (Str.ofString (toString n)) tok]) (c + 1) hst' (D'.keeps fun b o e hc => hoth b o ?_ e) hupd (fun y hy => hfit y (.tail _ hy)) (by simp only [List.length_append, List.length_cons, List.length_nil]; omega) ?_ ?_
      · intro e'
        rw [e', hS'] at e
        cases e
        rcases hc with hc | hc | hc | hc
        · exact absurd (Value.type.inj hc) (by decide)
        · exact absurd (Value.type.inj hc) (by decide)
        · exact absurd (Value.type.inj hc) (by decide)
        · exact hSl (e'.symm.trans hc)
      · intro ts hts h'' tk'' vs c'' hk'' hS'' hvs
        refine hok (Str.ofString (toString n) :: ts) (by simp [allPlain, plainT, hn, hts]) h'' tk'' (Value.str (Str.ofString (toString n)) tok :: vs) c'' (fun b o hb hbi e => hk'' b o hb hbi (hoth b o hb (hk b o hbi e))) ?_ (.cons _ _ hvs)
        rw [hS'']
        simp
      · intro hnone h'' tk'' e hk'' hnew hve
        refine hbad (by simp [allPlain, plainT, hn, hnone]) h'' tk'' e (fun b o hb hbi e => hk'' b o hb hbi (hoth b o hb (hk b o hbi e))) ?_ hve
        cases q : s.heap.get? e with
        | none => rfl
        | some o =>
          by_cases he : e = S
          · rw [he, hupd] at hnew; cases hnew
          · by_cases hei : e = i
            · obtain ⟨o', ho', hc', _⟩ := D'.it
              have := hoth i o' (fun q => hSi q.symm) ho'
              rw [hei, this] at hnew; cases hnew
            · rw [hoth e o he (hk e o hei q)] at hnew; cases hnew
end
end Mine
end
section
set_option Elab.async false
set_option maxRecDepth 100000
namespace Mine
open PySem PySem.W PyProof.Rows PySem.Calls PySem.NumText
open Sem (wp)
section
variable {prog : Program} {w : World} {A : Around} {E : Value → Shared → Prop} {s : Shared} {m1 T1 m2 T2 i l S : Addr} {xs : Array Value}
theorem hint_map {m T : Addr} {f : Value} {Q : Bool → Shared → Prop} (hm : IsMap s.heap m T f) (h : Q true s) : wpAny (model prog w) A (Builtin.List.listLengthHint (.ref m)) Q E s := by
  have hT : s.TypeIs (.ref m) "map" := ⟨_, hm, rfl⟩
  unfold Builtin.List.listLengthHint
  refine wpAny_bind (wpAny_specialOf hT map_no_len ?_)
  show wpAny _ _ (specialOf (.ref m) "__length_hint__" >>= _) _ _ _
  refine wpAny_bind (wpAny_specialOf hT map_no_hint ?_)
  exact wpAny_pure h
theorem extend_maps {R : Result → Shared → Prop} {rest : List Str} (hh : A.handled = none) (hSl : S ≠ l) (res : Value) (c : Nat) (hst : StrsAre xs.toList rest) (D : TwoMaps s.heap m1 T1 m2 T2 i l 0 xs)
    (hS : s.heap.get? S = some (listOf #[] c)) (hfit : ∀ x ∈ rest, Fit x) (hz : rest.length ≤ 1000)
    (hok : ∀ ts, allPlain rest = some ts → ∀ h' tk vs c', (∀ b o, b ≠ S → b ≠ i → s.heap.get? b = some o → h'.get? b = some o) → h'.get? S = some (listOf vs.toArray c') → StrsAre vs ts → R (.ok (.ret res)) { s with heap := h', toks := tk })
    (hbad : allPlain rest = none → ∀ h' tk e, (∀ b o, b ≠ S → b ≠ i → s.heap.get? b = some o → h'.get? b = some o) → s.heap.get? e = none → IsVE h' e → R (.error (.ref e)) { s with heap := h', toks := tk }) :
    wpAny (model prog w) A.in1 (Builtin.List.listExtendWith (.ref S) (.ref m1) res)
      (fun fin s' => match fin with | .done f => R (.ok f) s' | .again c' => c'.quiet = true ∧ codeAny (model prog w) A c' R s') (fun e s' => R (.error e) s') s := by
  have hSm : S ≠ m1 := fun e => by
    have q : s.heap.get? m1 = some _ := D.a1
    rw [← e, hS] at q
    exact absurd (Value.type.inj (congrArg Obj.cls (Option.some.inj q))) (by decide)
  unfold Builtin.List.listExtendWith
  refine wpAny_bind (wpAny_typeOf (T := "map") ⟨_, D.a1, rfl⟩ ?_)
  have h1 : Builtin.List.listSameRef (.ref S) (.ref m1) = false := by simp [Builtin.List.listSameRef, hSm]
  have h2 : (Value.type "map" == Value.type "list") = false := by decide
  have h3 : (Value.type "map" == Value.type "tuple") = false := by decide
  simp only [h1, h2, h3, Bool.or_false, Bool.false_eq_true, if_false]
  refine wpAny_bind (pyIter_map D.a1 ?_)
  refine wpAny_bind (wpAny_holding (hint_map D.a1 ?_))
  refine wpAny_ite_split (fun _ => ?_) (fun hab => absurd (Bool.true_or _) hab)
  refine wpAny_bind (wpAny_rule ?_)
  refine wpAny_bind ?_
  show wpAny _ _ (updateSeq S (·.push .none) >>= fun _ => updateSeq S (·.pop)) _ _ _
  refine wpAny_bind (wpAny_updateSeq hS rfl ?_)
  have hS₂ := Heap.get?_update_self (Obj.mapSeq (·.push Value.none)) hS rfl
  refine wpAny_updateSeq (hz := by seq_fits) hS₂ rfl ?_
  have hS₃ := Heap.get?_update_self (Obj.mapSeq (·.pop)) hS₂ rfl
  have hk : ∀ b o, b ≠ S → s.heap.get? b = some o → ((s.heap.update S (Obj.mapSeq (·.push Value.none))).update S (Obj.mapSeq (·.pop))).get? b = some o :=
    fun b o hb e => (Heap.get?_update_other _ _ (Ne.symm hb)).trans ((Heap.get?_update_other _ _ (Ne.symm hb)).trans e)
  refine wpAny_pure ⟨plainId_quiet F.plain_extend_loop _, loop_maps (acc := []) hh hSl res rest 0 _ _ (by simpa using hst) (D.keeps fun b o e hc => hk b o ?_ e) hS₃ hfit (by simpa using hz) ?_ ?_⟩
  · intro e'
    rw [e', hS] at e
    cases e
    rcases hc with hc | hc | hc | hc
    · exact absurd (Value.type.inj hc) (by decide)
    · exact absurd (Value.type.inj hc) (by decide)
    · exact absurd (Value.type.inj hc) (by decide)
    · exact hSl (e'.symm.trans hc)
  · intro ts hts h' tk vs c' hk' hS' hvs
    exact hok ts hts h' tk vs c' (fun b o hb hbi e => hk' b o hb hbi (hk b o hb e)) hS' hvs
  · intro hn h' tk e hk' hnew hve
    refine hbad hn h' tk e (fun b o hb hbi e => hk' b o hb hbi (hk b o hb e)) ?_ hve
    cases q : s.heap.get? e with
    | none => rfl
    | some o =>
      by_cases he : e = S
      · rw [he, hS₃] at hnew; cases hnew
      · rw [hk e o he q] at hnew; cases hnew
theorem call_list_maps {Q : Value → Shared → Prop} {rest : List Str} (hh : A.handled = none) (hst : StrsAre xs.toList rest) (D : TwoMaps s.heap m1 T1 m2 T2 i l 0 xs)
    (hfit : ∀ x ∈ rest, Fit x) (hz : rest.length ≤ 1000)
    (hok : ∀ ts, allPlain rest = some ts → ∀ h' tk vs c', (∀ b o, b ≠ i → s.heap.get? b = some o → h'.get? b = some o) → h'.get? s.heap.objs.size = some (listOf vs.toArray c') → StrsAre vs ts → Q (.ref s.heap.objs.size) { s with heap := h', toks := tk })
    (hbad : allPlain rest = none → ∀ h' tk e, (∀ b o, b ≠ i → s.heap.get? b = some o → h'.get? b = some o) → s.heap.get? e = none → IsVE h' e → E (.ref e) { s with heap := h', toks := tk }) :
    wpAny (model prog w) A (call (.type "list") [.ref m1]) Q E s := by
  refine callType_codes (Q₁ := fun obj s₁ => obj = .ref s.heap.objs.size ∧ s₁ = { s with heap := s.heap.push { cls := .type "list", data := .seq #[] } }) F.called_list (F.typeCall_list_1 _) F.entry_list_init
    (code_list_new _ ⟨rfl, rfl⟩) fun obj s₁ h₁ => ?_
  obtain ⟨rfl, rfl⟩ := h₁
  have hS : (s.heap.push { cls := .type "list", data := .seq #[] }).get? s.heap.objs.size = some (listOf #[] 0) := Heap.get?_push_size _ rfl
  have hpush : ∀ b o, s.heap.get? b = some o → (s.heap.push { cls := .type "list", data := .seq #[] }).get? b = some o := fun b o e => Heap.get?_push_of_some _ e
  have hlt : ∀ b o, s.heap.get? b = some o → b ≠ s.heap.objs.size := fun b o e => Nat.ne_of_lt (Heap.lt_size e)
  have hSl : s.heap.objs.size ≠ l := by
    obtain ⟨o, ho, _⟩ := D.ls
    exact Ne.symm (hlt _ _ ho)
  refine ⟨⟨_, hS, rfl⟩, F.args_list_init_2 _ _, ?_⟩
  show wpAny _ _ (do let old ← Builtin.List.listItems (.ref s.heap.objs.size); Builtin.List.listUpdate (.ref s.heap.objs.size) (fun _ => #[]); letGo old.toList.reverse; Builtin.List.listExtendWith (.ref s.heap.objs.size) (.ref m1) .none) _ _ _
  refine wpAny_bind ?_
  unfold Builtin.List.listItems
  refine wpAny_bind (wpAny_seqItems hS rfl (wpAny_pure ?_))
  show wpAny _ _ (updateSeq s.heap.objs.size (fun _ => #[]) >>= fun _ => letGo (#[] : Array Value).toList.reverse >>= fun _ => Builtin.List.listExtendWith (.ref s.heap.objs.size) (.ref m1) .none) _ _ _
  refine wpAny_bind (wpAny_updateSeq hS rfl ?_)
  have hS₂ := Heap.get?_update_self (Obj.mapSeq (fun _ => (#[] : Array Value))) hS rfl
  have oth : ∀ b o, b ≠ s.heap.objs.size → (s.heap.push { cls := .type "list", data := .seq #[] }).get? b = some o → ((s.heap.push { cls := .type "list", data := .seq #[] }).update s.heap.objs.size (Obj.mapSeq (fun _ => (#[] : Array Value)))).get? b = some o :=
    fun b o hb e => (Heap.get?_update_other _ _ (Ne.symm hb)).trans e
  have k₂ : ∀ b o, s.heap.get? b = some o → ((s.heap.push { cls := .type "list", data := .seq #[] }).update s.heap.objs.size (Obj.mapSeq (fun _ => (#[] : Array Value)))).get? b = some o :=
    fun b o e => oth b o (hlt b o e) (hpush b o e)
  refine wpAny_bind (wpAny_letGo ?_)
  refine extend_maps (A := A.in1) hh hSl .none _ hst (D.keeps fun b o e _ => k₂ b o e) hS₂ hfit hz ?_ ?_
  · intro ts hts h' tk vs c' hk hS' hvs
    exact ⟨rfl, hok ts hts h' tk vs c' (fun b o hb e => hk b o (hlt b o e) hb (k₂ b o e)) hS' hvs⟩
  · intro hn h' tk e hk hnew hve
    refine hbad hn h' tk e (fun b o hb e => hk b o (hlt b o e) hb (k₂ b o e)) ?_ hve
    cases q : s.heap.get? e with
    | none => rfl
    | some o => rw [k₂ e o q] at hnew; cases hnew
end
end Mine
end
section
set_option Elab.async false
set_option maxRecDepth 100000
namespace Mine
open PySem PySem.W PyProof.Rows PySem.Calls PySem.NumText
open Sem (wp)
abbrev mapO (T : Addr) (f : Value) : Obj := { cls := .type "map", data := .fields #[.ref T, f] }
abbrev oneO (a : Addr) : Obj := { cls := .type "tuple", data := .seq #[.ref a] }
abbrev iterO (l : Addr) : Obj := { cls := .type "list_iterator", data := .fields #[.ref l, .int 0 0] }
abbrev mapH1 (h : Heap) (l : Addr) : Heap := h.push (iterO l)
abbrev mapH2 (h : Heap) (l : Addr) : Heap := (mapH1 h l).push (oneO h.objs.size)
abbrev mapH3 (h : Heap) (l : Addr) (f : Value) : Heap := (mapH2 h l).push (mapO (mapH1 h l).objs.size f)
theorem meets_map_list (f : Value) (l : Addr) (xs : Array Value) :
    Meets (Builtin.«map.__new__» ⟨[.type "map", f, .ref l], []⟩) (fun _ R s => s.heap.IsList l xs ∧ R (.ok (.ret (.ref (mapH2 s.heap l).objs.size))) { s with heap := mapH3 s.heap l f }) :=
  .of_wp fun prog w A R s h => by
    obtain ⟨hp, g, d, tk, os⟩ := s; obtain ⟨hl1, h⟩ := h
    have hsub := sub_map
    have hL1 : Heap.IsList (Shared.heap ⟨hp, g, d, tk, os⟩) l xs := hl1
    wp_walk using wpAny_pyIter_list hL1
    exact ⟨_, rfl, h⟩
abbrev mapG1 (h : Heap) (m : Addr) : Heap := h.push (oneO m)
abbrev mapG2 (h : Heap) (m : Addr) (f : Value) : Heap := (mapG1 h m).push (mapO h.objs.size f)
theorem meets_map_map (f g' : Value) (m T : Addr) :
    Meets (Builtin.«map.__new__» ⟨[.type "map", f, .ref m], []⟩) (fun _ R s => IsMap s.heap m T g' ∧ R (.ok (.ret (.ref (mapG1 s.heap m).objs.size))) { s with heap := mapG2 s.heap m f }) :=
  .of_wp fun prog w A R s h => by
    obtain ⟨hp, g, d, tk, os⟩ := s; obtain ⟨hl1, h⟩ := h
    have hsub := sub_map
    have hL1 : IsMap (Shared.heap ⟨hp, g, d, tk, os⟩) m T g' := hl1
    wp_walk using pyIter_map hL1
    exact ⟨_, rfl, h⟩
section
variable {prog : Program} {w : World} {A : Around} {E : Value → Shared → Prop} {s : Shared} {h₀ : Heap} {L l : Addr} {m : Str → Option Value} {news : List (Addr × Obj)}
theorem map_list_K {its : Array Value} {n : Nat} {f : Value} {Q : Value → Shared → Prop} (F : Fr h₀ L s.heap m) (N : News h₀ L s.heap news) (hm : (l, listOf its n) ∈ news)
    (h : ∀ i T m2 h', Fr h₀ L h' m → News h₀ L h' ((m2, mapO T f) :: (T, oneO i) :: (i, iterO l) :: news) → (∀ p ∈ news, p.1 < i) → Q (.ref m2) { s with heap := h' }) :
    wpAny (model prog w) A (call (.type "map") [f, .ref l]) Q E s := by
  have hl : s.heap.IsList l its := ⟨_, (N _ hm).1, rfl, n, rfl⟩
  refine callType_new called_map (by decide) (typeCall_map_2 _ _) (newCall_map_2 _ _) (fun obj => PySem.F.args_object_init_3 obj _ _) entry_map_new (meets_map_list f l its) ⟨hl, ?_⟩
  have F1 := F.push (iterO l)
  have N1 := News.push F N (iterO l)
  have F2 := F1.push (oneO s.heap.objs.size)
  have N2 := News.push F1 N1 (oneO s.heap.objs.size)
  have F3 := F2.push (mapO (mapH1 s.heap l).objs.size f)
  have N3 := News.push F2 N2 (mapO (mapH1 s.heap l).objs.size f)
  refine ⟨⟨_, (N3 _ (.head _)).1, rfl⟩, h _ _ _ _ F3 N3 fun p hp => Heap.lt_size (N p hp).1⟩
theorem map_map_K {m2 T2 : Addr} {f g : Value} {Q : Value → Shared → Prop} (F : Fr h₀ L s.heap m) (N : News h₀ L s.heap news) (hm : (m2, mapO T2 g) ∈ news)
    (h : ∀ T m1 h', Fr h₀ L h' m → News h₀ L h' ((m1, mapO T f) :: (T, oneO m2) :: news) → Q (.ref m1) { s with heap := h' }) :
    wpAny (model prog w) A (call (.type "map") [f, .ref m2]) Q E s := by
  refine callType_new called_map (by decide) (typeCall_map_2 _ _) (newCall_map_2 _ _) (fun obj => PySem.F.args_object_init_3 obj _ _) entry_map_new (meets_map_map f g m2 T2) ⟨(N _ hm).1, ?_⟩
  have F1 := F.push (oneO m2)
  have N1 := News.push F N (oneO m2)
  have F2 := F1.push (mapO s.heap.objs.size f)
  have N2 := News.push F1 N1 (mapO s.heap.objs.size f)
  refine ⟨⟨_, (N2 _ (.head _)).1, rfl⟩, h _ _ _ F2 N2⟩
theorem list_maps_K {m1 T1 m2 T2 i : Addr} {vs : List Value} {ss : List Str} {n : Nat} {Q : Value → Shared → Prop} (hh : A.handled = none) (F : Fr h₀ L s.heap m)
    (N : News h₀ L s.heap ((m1, mapO T1 (.type "str")) :: (T1, oneO m2) :: (m2, mapO T2 (.type "int")) :: (T2, oneO i) :: (i, iterO l) :: news)) (hm : (l, listOf vs.toArray n) ∈ news) (hS : StrsAre vs ss)
    (hfit : ∀ x ∈ ss, Fit x) (hz : ss.length ≤ 1000) (hlt : ∀ p ∈ news, p.1 < i)
    (hok : ∀ ts, allPlain ss = some ts → ∀ S h' tk ws c', Fr h₀ L h' m → News h₀ L h' ((S, listOf ws.toArray c') :: news) → StrsAre ws ts → (∀ p ∈ news, p.1 < S) → Q (.ref S) { s with heap := h', toks := tk })
    (hbad : allPlain ss = none → ∀ g h' tk e, Fr h₀ L g m → News h₀ L g news → Heap.NewExc g h' e "ValueError" → E (.ref e) { s with heap := h', toks := tk }) :
    wpAny (model prog w) A (call (.type "list") [.ref m1]) Q E s := by
  have D : TwoMaps s.heap m1 T1 m2 T2 i l 0 vs.toArray := ⟨(N _ (.head _)).1, (N _ (.tail _ (.head _))).1, (N _ (.tail _ (.tail _ (.head _)))).1, (N _ (.tail _ (.tail _ (.tail _ (.head _))))).1,
    ⟨_, (N _ (.tail _ (.tail _ (.tail _ (.tail _ (.head _)))))).1, rfl, rfl⟩, ⟨_, (N _ (.tail _ (.tail _ (.tail _ (.tail _ (.tail _ hm)))))).1, rfl, n, rfl⟩⟩
  have hi := N _ (.tail _ (.tail _ (.tail _ (.tail _ (.head _)))))
  have hnews : ∀ p ∈ news, _ := fun p hp => N p (.tail _ (.tail _ (.tail _ (.tail _ (.tail _ hp)))))
  have frame : ∀ h' : Heap, (∀ b o, b ≠ i → s.heap.get? b = some o → h'.get? b = some o) → Fr h₀ L h' m ∧ News h₀ L h' news := by
    intro h' hk
    obtain ⟨oL, es, ep, hL, r⟩ := F.ns
    refine ⟨⟨⟨oL, es, ep, hk _ _ (fun q => hi.2.1 q.symm) hL, r⟩, fun b o e => hk b o (fun q => ?_) (F.keep b o e), F.above⟩, fun p hp => ⟨hk _ _ (Nat.ne_of_lt (hlt p hp)) (hnews p hp).1, (hnews p hp).2⟩⟩
    have := hi.2.2
    rw [← q, e] at this; cases this
  refine call_list_maps hh (by simpa using hS) D hfit hz ?_ ?_
  · intro ts hts h' tk ws c' hk hS' hws
    obtain ⟨F', N'⟩ := frame h' hk
    refine hok ts hts _ h' tk ws c' F' (fun p hp => ?_) hws fun p hp => Heap.lt_size (hnews p hp).1
    rcases List.mem_cons.mp hp with rfl | hp
    · refine ⟨hS', Nat.ne_of_gt ?_, ?_⟩
      · obtain ⟨oL, _, _, hL, _⟩ := F.ns
        exact Heap.lt_size hL
      · cases q : h₀.get? s.heap.objs.size with
        | none => rfl
        | some o => exact absurd (Heap.lt_size (F.keep _ _ q)) (Nat.lt_irrefl _)
    · exact N' p hp
  · intro hn h' tk e hk hnew hve
    obtain ⟨ob, t, v1, v2, v3⟩ := hve
    have hh' : ∀ b o, b ≠ i → s.heap.get? b = some o → (s.heap.hide i).get? b = some o := fun b o hb q => (Heap.hide_ne _ hb).trans q
    obtain ⟨F', N'⟩ := frame (s.heap.hide i) hh'
    refine hbad hn (s.heap.hide i) h' tk e F' N' ⟨fun b o q => hk b o (fun z => ?_) (Heap.of_hide q), ?_, ob, t, v1, v2, v3⟩
    · rw [z, Heap.hide_self] at q; cases q
    · cases q : (s.heap.hide i).get? e with
      | none => rfl
      | some o => rw [Heap.of_hide q] at hnew; cases hnew
end
end Mine
end
section
set_option Elab.async false
set_option maxRecDepth 100000
namespace Mine
open PySem PySem.W PyProof.Rows PySem.Calls PySem.NumText
theorem enter_try {prog : Program} {w : World} {A : Around} {s : Shared} {h₀ : Heap} {L : Addr} {m : Str → Option Value} {env : Env} {news : List (Addr × Obj)} {K : Frag} {p : Program} {loose : List Str} {mean : ExcName → Option Value} {mg mb : Str → Option Value}
    {R : Result → Shared → Prop} {name qual : Str} {params : Arguments} {body : List Stmt} {scope : Scope} {dV kV doc pm cdv ct oc : Value} {an od : Option Addr} {osl : Array (Option Value)} {f : Addr} {args : Args} {binds : List (Str × Value)}
    (F : Fr h₀ L s.heap m) (X₀ : K.In h₀) (N : News h₀ L s.heap news) (T : Top p loose mean mg mb h₀) (hf : env.frame = some L) (hck : env.scope.kind = .function)
    (ho : K.lookup f = some ⟨oc, od, .func (fnOf name qual params body scope dV kV doc pm an cdv ct), osl⟩) (hcd : codeIn K cdv qual = true) (hroom : A.depth < recursionLimit)
    (hbind : BindsTo s (fnOf name qual params body scope dV kV doc pm an cdv ct) args binds) (hloc : ∀ y ∈ binds, scope.names.lookup y.1 = some .local)
    (h : ∀ oL L' h₁, TI.Caller h₀ L m oL → TI.Frs [env] [(L, oL)] → (∀ p ∈ news, p.1 ≠ L) → Fr h₀ L' h₁ (fun y => binds.reverse.lookup y) → News h₀ L' h₁ (news ++ [(L, oL)]) → (∀ p ∈ news ++ [(L, oL)], p.1 < L') →
      wpAny (model prog w) (A.deeper (envOf qual scope L' f cdv)) (execs body (envOf qual scope L' f cdv))
        (fun fl s' => TI.LeaveI s' (R (.ok (.ret (match fl with | .ret v => v | _ => .none))) s'))
        (fun e s' => wpAny (model prog w) (A.deeper (envOf qual scope L' f cdv)) (leaving (envOf qual scope L' f cdv) e) (fun _ s'' => TI.LeaveX (R (.error e) s'')) (fun e' s'' => TI.LeaveX (R (.error e') s'')) s')
        { s with heap := h₁, toks := s.toks + binds.length })
    (hco : scope.isCoroutine = false) (hgen : scope.isGenerator = false) (hk : scope.kind = .function)
    (hcell : ∀ x ∈ scope.names, x.2 ≠ .cell) : codeAny (model prog w) A (.call (.ref f) args) R s := by
  have X := X₀.keeps F.keep
  obtain ⟨oL, es, ep, hL, hLd, hLk, hLf⟩ := F.ns
  have hLt := Heap.lt_size hL
  have hkind : env.scope.kind ≠ .module := by rw [hck]; decide
  refine codeAny_call_def (fd := fnOf name qual params body scope dV kV doc pm an cdv ct) (body := body) (binds := binds) hroom (X _ _ ho) rfl (T.nolimit.keeps F.keep) (codeRec_of X hcd) rfl hbind hcell hloc (fun h₁ hns hk₁ => ?_) hco hgen hk
  have up : ∀ b o, s.heap.get? b = some o → h₁.get? b = some o := fun b o e => hk₁ b o e
  have lt : ∀ p ∈ news ++ [(L, oL)], p.1 < s.heap.objs.size := fun p hp => by
    rcases List.mem_append.mp hp with hp | hp
    · exact Heap.lt_size (N p hp).1
    · rw [List.mem_singleton.mp hp]; exact hLt
  refine wpAny_mono (h oL s.heap.objs.size h₁ ⟨fun h' sl e => ⟨_, es, ep, e, hLd, hLk, hLf⟩, ⟨es, ep, hLd⟩, F.above⟩ ⟨hkind, hf, ⟨es, ep, hLd⟩, trivial⟩ (fun p hp => (N p hp).2.1)
    ⟨hns, fun b o e => up b o (F.keep b o e), Nat.le_trans F.above (Nat.le_of_lt hLt)⟩ (fun p hp => ?_) lt) (fun _ _ x => x) fun _ _ x => wpAny_mono x (fun _ _ y => y) fun _ _ y => y
  rcases List.mem_append.mp hp with hp | hp
  · obtain ⟨h1, h2, h3⟩ := N p hp
    exact ⟨up _ _ h1, Nat.ne_of_lt (Heap.lt_size h1), h3⟩
  · rcases List.mem_cons.mp hp with rfl | hp
    · exact ⟨up _ _ hL, Nat.ne_of_lt hLt, Heap.get?_none_of_le F.above⟩
    · exact nomatch hp
theorem noted_c {prog : Program} {w : World} {A₀ : Around} {E : Value → Shared → Prop} {s' : Shared} {h h₀ : Heap} {L L' a e : Addr} {m : Str → Option Value} {oL : Obj} {name : Str} {scope : Scope} {cd : Value} {Q : Unit → Shared → Prop} {X : String} {env : Env} {p0 : Addr × Obj} {new : List (Addr × Obj)}
    (hfr : A₀.frames = some [env]) (Fs : TI.Frs [env] [(L, oL)]) (hx : Heap.NewExc h s'.heap e X) (F : Fr h₀ L' h m) (N : News h₀ L' h (p0 :: (new ++ [(L, oL)]))) (h0 : p0.1 ≠ L) (hne : ∀ p ∈ new, p.1 ≠ L)
    (k : ∀ h' sl, TI.Frs [env] [(L, { oL with slots := sl })] → TT.HeldN h₀ L' h' m e X (p0 :: (new ++ [(L, { oL with slots := sl })])) → Q () { s' with heap := h' }) (hk : scope.kind = .function) :
    wpAny (model prog w) (A₀.deeper (envOf name scope L' a cd)) (noteFrame (.ref e) (envOf name scope L' a cd)) Q E s' :=
  TLg.noted_new1 (new := p0 :: new) hfr Fs hx F N ⟨h0, TLgL.allNe_of hne⟩ k hk
theorem leave_c {P : Prop} {s' : Shared} {h₀ : Heap} {L L' : Addr} {m m' : Str → Option Value} {oL : Obj} {new : List (Addr × Obj)} {sl : Array (Option Value)} (C : TI.Caller h₀ L m oL) (F' : Fr h₀ L' s'.heap m') (N' : News h₀ L' s'.heap (new ++ [(L, { oL with slots := sl })])) (hne : ∀ p ∈ new, p.1 ≠ L)
    (k : Fr h₀ L s'.heap m → News h₀ L s'.heap new → P) : TI.LeaveI s' P := TLg.leave_back C F' N' (TLgL.allNe_of hne) k
theorem ne_of_lts {r : List (Addr × Obj)} {L' d : Addr} (h : ∀ p ∈ r, p.1 < L') (hd : L' < d) : ∀ p ∈ r, p.1 ≠ d := fun p hp => Nat.ne_of_lt (Nat.lt_trans (h p hp) hd)
abbrev dot : Str := Str.ofString "."
def normL (x y : Str) : List Str := if y.length = 0 then Txt.split x dot else Txt.split x dot ++ [y]
def normF (x y : Str) : Str := Txt.join dot (((allPlain (normL x y)).getD (normL x y)).take 3)
theorem normL_nil {x y : Str} (h : (y.length : Int) = 0) {ss : List Str} (e : ss = Txt.split x dot) : ss = normL x y := by
  rw [normL, if_pos (by omega), e]
theorem normL_cons {x y : Str} (h : (y.length : Int) ≠ 0) {ss : List Str} (e : ss = Txt.split x dot) : ss ++ [y] = normL x y := by
  rw [normL, if_neg (by omega), e]
theorem fit_of {x y : Str} {ss : List Str} (hf : ∀ p ∈ normL x y, Fit p) (e : ss = normL x y) : ∀ p ∈ ss, Fit p := e ▸ hf
local macro_rules | `(tactic| walk_at "call builtin:list.append") => `(tactic| (k_here; k_dflt (refine' appendStr_K ?F ?N ?U ?S ?z ?_; (case F => k_asm); (case N => k_asm); (case U => exact Upd.head (ne_of_lts (by with_reducible assumption) (by with_reducible assumption))); (case S => with_reducible assumption); (case z => (rw [sizeLine_eq]; simp only [List.length_map]; omega)); k_whole; intro h' F' N' S'; (try dsimp only at N'); (try k_sweep))))
local macro_rules | `(tactic| walk_at "call type:map") => `(tactic| (k_here; (with_reducible show wpAny _ _ (call (Value.type "map") _) _ _ _); k_dflt (first
  | (refine' map_list_K ?F ?N ?b ?_; (case F => k_asm); (case N => k_asm); (case b => k_mem); k_whole; intro i2' T2' m2' h2' F2' N2' lt2'; (try dsimp only))
  | (refine' map_map_K ?F ?N ?b ?_; (case F => k_asm); (case N => k_asm); (case b => k_mem); k_whole; intro T1' m1' h1' F1' N1'; (try dsimp only)))))
theorem sum_take3 {ys : List Str} (h : ∀ y ∈ ys, y.length ≤ 1000) : ((ys.take 3).map (·.length)).sum + (ys.take 3).length * dot.length ≤ 16777216 := by
  have hd : dot.length = 1 := by decide +kernel
  have key : ∀ l : List Str, (∀ y ∈ l, y.length ≤ 1000) → (l.map (·.length)).sum ≤ 1000 * l.length := by
    intro l
    induction l with
    | nil => intro _; simp
    | cons a r ih =>
      intro hl
      have h1 := ih fun y hy => hl y (.tail _ hy)
      have h2 := hl a (.head _)
      simp only [List.map_cons, List.sum_cons, List.length_cons]
      omega
  have h1 := key (ys.take 3) fun y hy => h y (List.mem_of_mem_take hy)
  have h2 : (ys.take 3).length ≤ 3 := by rw [List.length_take]; omega
  rw [hd]
  omega
theorem norm_ok {x y : Str} {ss ts : List Str} (e : ss = normL x y) (h : allPlain ss = some ts) : Txt.join dot (ts.take 3) = normF x y := by
  rw [normF, ← e, h]; rfl
theorem norm_no {x y : Str} {ss : List Str} (e : ss = normL x y) (h : allPlain ss = none) : Txt.join dot (ss.take 3) = normF x y := by
  rw [normF, ← e, h]; rfl
theorem fit_len {ss : List Str} (h : ∀ x ∈ ss, Fit x) : ∀ x ∈ ss, x.length ≤ 1000 := fun x hx => Nat.le_trans (h x hx).len (by decide)
theorem strs_small {vs : List Value} {ss : List Str} (h : StrsAre vs ss) (hz : ss.length ≤ 1000) : vs.length ≤ sizeLine := by
  rw [h.length, sizeLine_eq]; omega
theorem allPlain_length : ∀ {ss ts : List Str}, allPlain ss = some ts → ts.length = ss.length
  | [], ts, h => by cases h; rfl
  | x :: r, ts, h => by
    simp only [allPlain] at h
    cases hp : plainT x with
    | none => rw [hp] at h; cases h
    | some y =>
      cases hr : allPlain r with
      | none => rw [hp, hr] at h; cases h
      | some ys =>
        rw [hp, hr] at h
        cases h
        simp only [List.length_cons, allPlain_length hr]
theorem strs_take3 {vs : List Value} {ss : List Str} (h : StrsAre vs ss) : StrsAre (vs.take 3) (ss.take 3) := StrsAre.take' h 3
theorem split_z {x : Str} {ss : List Str} (e : ss = Txt.split x dot) (h : x.length ≤ 300) : ss.length ≤ 1000 := by
  have := split_le x dot
  rw [e]; omega
theorem plain_z {x : Str} {ss ts : List Str} (h0 : allPlain ss = some ts) (e : ss = Txt.split x dot) (h : x.length ≤ 300) : ts.length ≤ 1000 := by
  rw [allPlain_length h0]; exact split_z e h
theorem nil_len : ((Str.ofString "").length : Int) = 0 := by decide +kernel
local macro_rules | `(tactic| walk_at "subscriptTail Name Slice ref ref") => `(tactic| (k_here; (with_reducible show wpAny _ _ (subscriptTail _ (PySem.Expr.Slice none _ none _) (Value.ref _) (Value.ref _)) _ _ _); k_dflt (refine' sliceUpto_K (b := 3) ?F ?N ?b ?p ?_ ?w ?t ?z; (case F => k_asm); (case N => k_asm); (case b => k_mem); (case p => exact IsPart.int _ _); (case w => with_unfolding_all rfl); (case t => (intro _; with_unfolding_all rfl)); (case z => first | exact strs_small (by with_reducible assumption) (split_z (by with_reducible assumption) (by with_reducible assumption)) | exact strs_small (by with_reducible assumption) (plain_z (by with_reducible assumption) (by with_reducible assumption) (by with_reducible assumption)) | exact strs_small (by with_reducible assumption) (by simp only [List.length_map, List.length_append, List.length_cons, List.length_nil]; omega) | exact strs_small (by with_reducible assumption) (by rw [allPlain_length (by with_reducible assumption)]; simp only [List.length_map, List.length_append, List.length_cons, List.length_nil]; omega)); k_whole; intro D3' h3' F3' N3' l3'; (try dsimp only))))
set_option pp.maxSteps 400000
set_option pp.deepTerms false
set_option pp.deepTerms.threshold 6
set_option maxHeartbeats 2000000 in
theorem norm_c {w : World} {mean : ExcName → Option Value} {mg mb : Str → Option Value} {news : List (Addr × Obj)} {x y : Str} {t u : Tok}
    {dp un : Nat} {gd : Option (List Code)} {cn : Str} {cs : Scope} {a : Addr} {ccd : Value} {cl : List (Str × Addr)} {h₀ : Heap} {L : Addr} {m : Str → Option Value} {s : Shared} {Q E : Value → Shared → Prop}
    (F : Fr h₀ L s.heap m) (X : (hd.heap_39 w.params).In h₀) (N : News h₀ L s.heap news) (T : Top hd.view_39 (looseW hd.view_39 [Str.ofString "_norm_version"]) mean mg mb h₀) (hk : cs.kind = .function)
    (hdp : dp + 2 < recursionLimit) (hun : un + 100 < cLine) (hlen : x.length ≤ 300) (hlen2 : y.length ≤ 100) (hfit : ∀ p ∈ normL x y, Fit p)
    (hret : ∀ (t : Tok) (h' : Heap) (tk' : Nat), Fr h₀ L h' m → News h₀ L h' news → Q (.str (normF x y) t) { s with heap := h', toks := tk' }) :
    wpAny (model PySem.Challenge.rw_mq0063_01.row.prog w) (ktrTop dp un gd cn cs L a ccd cl []) (call (.ref 22) [.str x t, .str y u]) Q E s := by
  w_on
  k_with_none
  k_with_none
  k_with "call type:list" => (refine' list_maps_K rfl ?F ?N ?b ?S ?ft ?z ?lt ?_ ?_; (case F => k_asm); (case N => k_asm); (case b => k_mem); (case S => with_reducible assumption); (case ft => first | exact fit_of hfit (normL_nil (by with_reducible assumption) (by with_reducible assumption)) | exact fit_of hfit (normL_cons (by with_reducible assumption) (by with_reducible assumption))); (case z => ((try simp only [List.length_append, List.length_map, List.length_cons, List.length_nil]); omega)); (case lt => with_reducible assumption))
  k_with "call builtin:str.join" => (refine' joinK ?N ?b ?S ?z ?_; (case N => k_asm); (case b => k_mem); (case S => exact strs_take3 (by with_reducible assumption)); (case z => first | exact sum_take3 (fit_len (fit_of hfit (normL_nil (by with_reducible assumption) (by with_reducible assumption)))) | exact sum_take3 (fit_len (fit_of hfit (normL_cons (by with_reducible assumption) (by with_reducible assumption)))) | exact sum_take3 (allPlain_len (fit_of hfit (normL_nil (by with_reducible assumption) (by with_reducible assumption))) (by with_reducible assumption)) | exact sum_take3 (allPlain_len (fit_of hfit (normL_cons (by with_reducible assumption) (by with_reducible assumption))) (by with_reducible assumption))); intro tj' kj'; (try dsimp only))
  k_with "noteFrame ref" => (refine' noted_c ?A ?Fs ?x ?F ?N ?h0 ?ne ?_ ?hk; (case A => rfl); (case Fs => assumption); (case x => assumption); (case F => assumption); (case N => assumption); (case h0 => exact Nat.ne_of_gt (Nat.lt_trans (lt' (L, oL) (List.mem_append_right _ (List.mem_cons_self))) hLh)); (case ne => assumption); (case hk => rfl); intro hn' sl' tiF' tiH'; have tiHH' := TT.HeldNA.held tiH')
  w_strict (
  revert X; k_fill; intro X
  refine wpAny_call ?_
  k_dflt (refine' enter_try (env := envX cn cs L a ccd cl) ?k2 ?k3 ?k4 ?k5 ?kF ?kK ?k6 ?k7 ?k8 ?k9 ?kB ?_ ?c2 ?c3 ?c4 ?c5; (case kF => exact rfl); (case kK => exact hk); (case k2 => k_asm); (case k3 => k_asm); (case k4 => k_asm); (case k5 => k_asm); (case k6 => k_is); (case k7 => k_is); (case k8 => ktr_room); (case k9 => first | exact binds_K (by k_in) rfl (by k_is) rfl rfl rfl | exact BindsTo.of_eq rfl); (case kB => exact locs rfl); (case c2 => exact rfl); (case c3 => exact rfl); (case c4 => exact rfl); (case c5 => decide); k_whole; intro oL L' h' tiC tiF tiE F' N' lt'; (try dsimp only); (try k_fold))
  have hLh : L' < h'.objs.size := by obtain ⟨_, _, _, q, _⟩ := F'.ns; exact Heap.lt_size q
  k_steps
  all_goals (
    show TI.LeaveI _ _
    refine' leave_c (new := news) tiC ?lF ?lN tiE ?_
    (case lF => k_asm)
    (case lN => (refine' cb_drop ?ln ?ls; (case ln => k_asm); (case ls => (intro p hp; first | exact .tail _ (.tail _ (.tail _ hp)) | exact .tail _ (.tail _ hp) | exact .tail _ hp))))
    intro Fk Nk
    refine' cb_retS (Q := Q) hret ?_ Fk Nk
    with_reducible first
      | exact norm_ok (normL_nil (by assumption) (by assumption)) (by assumption)
      | exact norm_ok (normL_cons (by assumption) (by assumption)) (by assumption)
      | exact norm_no (normL_nil (by assumption) (by assumption)) (by assumption)
      | exact norm_no (normL_cons (by assumption) (by assumption)) (by assumption)))
set_option maxHeartbeats 2000000 in
theorem norm1_c {w : World} {mean : ExcName → Option Value} {mg mb : Str → Option Value} {news : List (Addr × Obj)} {x : Str} {t : Tok}
    {dp un : Nat} {gd : Option (List Code)} {cn : Str} {cs : Scope} {a : Addr} {ccd : Value} {cl : List (Str × Addr)} {h₀ : Heap} {L : Addr} {m : Str → Option Value} {s : Shared} {Q E : Value → Shared → Prop}
    (F : Fr h₀ L s.heap m) (X : (hd.heap_39 w.params).In h₀) (N : News h₀ L s.heap news) (T : Top hd.view_39 (looseW hd.view_39 [Str.ofString "_norm_version"]) mean mg mb h₀) (hk : cs.kind = .function)
    (hdp : dp + 2 < recursionLimit) (hun : un + 100 < cLine) (hlen : x.length ≤ 300) (hfit : ∀ p ∈ normL x (Str.ofString ""), Fit p)
    (hret : ∀ (t : Tok) (h' : Heap) (tk' : Nat), Fr h₀ L h' m → News h₀ L h' news → Q (.str (normF x (Str.ofString "")) t) { s with heap := h', toks := tk' }) :
    wpAny (model PySem.Challenge.rw_mq0063_01.row.prog w) (ktrTop dp un gd cn cs L a ccd cl []) (call (.ref 22) [.str x t]) Q E s := by
  w_on
  k_with_none
  k_with_none
  k_with "call type:list" => (refine' list_maps_K rfl ?F ?N ?b ?S ?ft ?z ?lt ?_ ?_; (case F => k_asm); (case N => k_asm); (case b => k_mem); (case S => with_reducible assumption); (case ft => first | exact fit_of hfit (normL_nil nil_len (by with_reducible assumption)) | exact fit_of hfit (normL_cons (by with_reducible assumption) (by with_reducible assumption))); (case z => exact split_z (by with_reducible assumption) (by with_reducible assumption)); (case lt => with_reducible assumption))
  k_with "call builtin:str.join" => (refine' joinK ?N ?b ?S ?z ?_; (case N => k_asm); (case b => k_mem); (case S => exact strs_take3 (by with_reducible assumption)); (case z => first | exact sum_take3 (fit_len (fit_of hfit (normL_nil nil_len (by with_reducible assumption)))) | exact sum_take3 (fit_len (fit_of hfit (normL_cons (by with_reducible assumption) (by with_reducible assumption)))) | exact sum_take3 (allPlain_len (fit_of hfit (normL_nil nil_len (by with_reducible assumption))) (by with_reducible assumption)) | exact sum_take3 (allPlain_len (fit_of hfit (normL_cons (by with_reducible assumption) (by with_reducible assumption))) (by with_reducible assumption))); intro tj' kj'; (try dsimp only))
  k_with "noteFrame ref" => (refine' noted_c ?A ?Fs ?x ?F ?N ?h0 ?ne ?_ ?hk; (case A => rfl); (case Fs => assumption); (case x => assumption); (case F => assumption); (case N => assumption); (case h0 => exact Nat.ne_of_gt (Nat.lt_trans (lt' (L, oL) (List.mem_append_right _ (List.mem_cons_self))) hLh)); (case ne => assumption); (case hk => rfl); intro hn' sl' tiF' tiH'; have tiHH' := TT.HeldNA.held tiH')
  w_strict (
  revert X; k_fill; intro X
  refine wpAny_call ?_
  k_dflt (refine' enter_try (env := envX cn cs L a ccd cl) ?k2 ?k3 ?k4 ?k5 ?kF ?kK ?k6 ?k7 ?k8 ?k9 ?kB ?_ ?c2 ?c3 ?c4 ?c5; (case kF => exact rfl); (case kK => exact hk); (case k2 => k_asm); (case k3 => k_asm); (case k4 => k_asm); (case k5 => k_asm); (case k6 => k_is); (case k7 => k_is); (case k8 => ktr_room); (case k9 => first | exact binds_K (by k_in) rfl (by k_is) rfl rfl rfl | exact BindsTo.of_eq rfl); (case kB => exact locs rfl); (case c2 => exact rfl); (case c3 => exact rfl); (case c4 => exact rfl); (case c5 => decide); k_whole; intro oL L' h' tiC tiF tiE F' N' lt'; (try dsimp only); (try k_fold))
  have hLh : L' < h'.objs.size := by obtain ⟨_, _, _, q, _⟩ := F'.ns; exact Heap.lt_size q
  k_steps
  all_goals (
    show TI.LeaveI _ _
    refine' leave_c (new := news) tiC ?lF ?lN tiE ?_
    (case lF => k_asm)
    (case lN => (refine' cb_drop ?ln ?ls; (case ln => k_asm); (case ls => (intro p hp; first | exact .tail _ (.tail _ (.tail _ hp)) | exact .tail _ (.tail _ hp) | exact .tail _ hp))))
    intro Fk Nk
    refine' cb_retS (Q := Q) hret ?_ Fk Nk
    with_reducible first
      | exact norm_ok (normL_nil nil_len (by assumption)) (by assumption)
      | exact norm_ok (normL_cons (by assumption) (by assumption)) (by assumption)
      | exact norm_no (normL_nil nil_len (by assumption)) (by assumption)
      | exact norm_no (normL_cons (by assumption) (by assumption)) (by assumption)))
end Mine
end
section
open PySem PySem.W PyProof.Rows PySem.Calls
set_option Elab.async false
namespace Mine
theorem ints_at {vs : List Value} {ns : List Int} (h : IntsAre vs ns) {k : Nat} (hk : k < ns.length) : ∃ t, vs[k]? = some (.int (ns.getD k 0) t) := by
  have hl := h.length
  obtain ⟨n, t, e, hn⟩ := IntsAre.at h k (vs[k]'(by omega)) (List.getElem?_eq_getElem (by omega))
  refine ⟨t, ?_⟩
  rw [List.getElem?_eq_getElem (by omega), e, List.getD_eq_getElem?_getD, hn]
  rfl
section
variable {prog : Program} {w : World} {A : Around} {E : Value → Shared → Prop} {s : Shared} {h₀ : Heap} {L D b : Addr} {m : Str → Option Value} {news news' : List (Addr × Obj)}
theorem firstInt_K {value slice : PySem.Expr} {vs : List Value} {ns : List Int} {n : Nat} {u : Tok} {Q : Value → Shared → Prop} (N : News h₀ L s.heap news) (hm : (D, listOf vs.toArray n) ∈ news)
    (hS : IntsAre vs ns) (h1 : 0 < ns.length) (hz : ns.length ≤ sizeLine) (h : ∀ t, Q (.int (ns.getD 0 0) t) s)
    (hs : subscripted slice false (.ref D) (.int 0 u) = operate [.ref D, .int 0 u] (getItem (.ref D) (.int 0 u)) := by with_unfolding_all rfl) :
    wpAny (model prog w) A (subscriptTail value slice (.ref D) (.int 0 u)) Q E s := by
  have hl := news_isList N hm
  obtain ⟨t, ht⟩ := ints_at hS (k := 0) h1
  rw [sizeLine_eq] at hz
  exact tail_any hl.typeIs slot_list_getitem.lookup (wpAny_getItem_list hl (by decide) (by decide) (by rw [List.getElem?_toArray]; exact ht) (h t)) hs
theorem lastInt_K {value slice : PySem.Expr} {vs : List Value} {ns : List Int} {n : Nat} {u : Tok} {Q : Value → Shared → Prop} (N : News h₀ L s.heap news) (hm : (D, listOf vs.toArray n) ∈ news)
    (hS : IntsAre vs ns) (hp : 0 < ns.length) (hz : ns.length ≤ sizeLine) (h : ∀ t, Q (.int (ns.getD (ns.length - 1) 0) t) s)
    (hs : subscripted slice false (.ref D) (.int (-1) u) = operate [.ref D, .int (-1) u] (getItem (.ref D) (.int (-1) u)) := by with_unfolding_all rfl) :
    wpAny (model prog w) A (subscriptTail value slice (.ref D) (.int (-1) u)) Q E s := by
  have hl := news_isList N hm
  have hlen := hS.length
  obtain ⟨t, ht⟩ := ints_at hS (k := ns.length - 1) (by omega)
  rw [sizeLine_eq] at hz
  have e : ((-1 : Int) + (vs.toArray.size : Nat)).toNat = ns.length - 1 := by rw [List.size_toArray]; omega
  exact tail_any hl.typeIs slot_list_getitem.lookup (wpAny_getItem_list_neg hl (by decide) (by rw [List.size_toArray]; omega) (by decide) (by rw [e, List.getElem?_toArray]; exact ht) (h t)) hs
end
end Mine
end
section
open PySem PySem.W PyProof.Rows PySem.Calls
set_option Elab.async false
namespace Mine
def blankAt (x : Str) (k : Int) : Bool := !(Builtin.Str.occurrences (Str.ofString " \t") (Txt.item x k) 0 (Str.ofString " \t").length 1).isEmpty
def placesG (x : Str) (l : List Int) (k : Int) : List Int := if blankAt x k = true then l else l ++ [k]
theorem places_yes {x : Str} {l : List Int} {k : Int} (h : (Builtin.Str.occurrences (Str.ofString " \t") (Txt.item x k) 0 (Str.ofString " \t").length 1).isEmpty = true) : placesG x l k = l ++ [k] := by
  unfold placesG blankAt; rw [h]; rfl
theorem places_no {x : Str} {l : List Int} {k : Int} (h : ¬ (Builtin.Str.occurrences (Str.ofString " \t") (Txt.item x k) 0 (Str.ofString " \t").length 1).isEmpty = true) : placesG x l k = l := by
  unfold placesG blankAt; rw [Bool.not_eq_true] at h; rw [h]; rfl
theorem places_grow (x : Str) : KPfGrows (placesG x) := by
  intro l k
  unfold placesG
  split <;> simp
def placesL (x : Str) : List Int := (rangeKs 0 ((x.length : Int) - 0).toNat).foldl (placesG x) []
theorem places_filter (x : Str) : ∀ (ks l : List Int), ks.foldl (placesG x) l = l ++ ks.filter (fun k => !blankAt x k)
  | [], l => by simp
  | k :: ks, l => by
    rw [List.foldl_cons, places_filter x ks, List.filter_cons]
    unfold placesG
    cases blankAt x k <;> simp
theorem placesL_filter (x : Str) : placesL x = (rangeKs 0 x.length).filter (fun k => !blankAt x k) := by
  unfold placesL
  rw [places_filter, List.nil_append]
  congr 2
theorem rangeKs_sorted (n : Nat) : (rangeKs 0 n).Pairwise (· < ·) := by
  unfold rangeKs
  rw [List.pairwise_map]
  exact List.pairwise_lt_range.imp (fun h => by omega)
def keptF (x : Str) : Str := Txt.slice x (some ((placesL x).getD 0 0)) (some ((placesL x).getD ((placesL x).length - 1) 0 + 1))
theorem kept_bounds {x : Str} (h : 0 < (placesL x).length) : 0 ≤ (placesL x).getD 0 0 ∧ (placesL x).getD 0 0 ≤ (placesL x).getD ((placesL x).length - 1) 0 ∧ (placesL x).getD ((placesL x).length - 1) 0 < (x.length : Int) := by
  have hs : (placesL x).Pairwise (· < ·) := by
    rw [placesL_filter]; exact (rangeKs_sorted _).filter _
  have hm : ∀ k ∈ placesL x, 0 ≤ k ∧ k < (x.length : Int) := by
    intro k hk
    rw [placesL_filter] at hk
    have := mem_rangeKs (List.mem_filter.mp hk).1
    omega
  generalize placesL x = l at *
  have g : ∀ j (hj : j < l.length), l.getD j 0 = l[j] := fun j hj => by
    rw [List.getD_eq_getElem?_getD, List.getElem?_eq_getElem hj]; rfl
  rw [g 0 h, g (l.length - 1) (by omega)]
  refine ⟨(hm _ (List.getElem_mem _)).1, ?_, (hm _ (List.getElem_mem _)).2⟩
  by_cases e : l.length = 1
  · simp [e]
  · exact Int.le_of_lt (List.pairwise_iff_getElem.mp hs 0 (l.length - 1) h (by omega) (by omega))
theorem keptF_eq {x : Str} (h : 0 < (placesL x).length) : keptF x = ⟨((x.cps.toList.drop ((placesL x).getD 0 0).toNat).take ((placesL x).getD ((placesL x).length - 1) 0 + 1 - (placesL x).getD 0 0).toNat).toArray⟩ := by
  have hb := kept_bounds h
  have := slice_closesL (x := x) (i := (placesL x).getD 0 0) (j := (placesL x).getD ((placesL x).length - 1) 0 + 1) hb.1 (by omega) (by omega)
  exact eq_of_beq this
theorem keptF_len {x : Str} (h : 0 < (placesL x).length) : ((keptF x).length : Int) = (placesL x).getD ((placesL x).length - 1) 0 + 1 - (placesL x).getD 0 0 := by
  have hb := kept_bounds h
  rw [keptF_eq h]
  show ((List.toArray _).size : Int) = _
  rw [List.size_toArray, List.length_take, List.length_drop]
  have : x.cps.toList.length = x.length := rfl
  rw [this]
  omega
theorem kept_pos {x : Str} (h : 0 < (placesL x).length) : 0 < (keptF x).length := by
  have := keptF_len h
  have hb := kept_bounds h
  omega
theorem kept_le (x : Str) : (keptF x).length ≤ x.length := Txt.slice_le _ _ _
end Mine
end
section
open PySem PySem.W PyProof.Rows PySem.Calls
set_option Elab.async false
namespace Mine
section
variable {prog : Program} {w : World} {A : Around} {E : Value → Shared → Prop} {s : Shared} {env : Env} {h₀ : Heap} {x : Str} {body : List Stmt} {Q : Flow → Shared → Prop}
theorem iter_split {l : Addr} {o : Obj} {vs : List Value} {m₀ m₀' : Str → Option Value} {rest : List (Addr × Obj)} {hOld : Heap} (J : Nat → (Str → Option Value) → Prop)
    (hh : A.handled = none) (hls : s.heap.IsList l vs.toArray) (hlo : l = hOld.objs.size) (F₀ : Fr h₀ env.locals hOld m₀') (N₀ : News h₀ env.locals hOld rest)
    (F : Fr h₀ env.locals s.heap m₀) (N : News h₀ env.locals s.heap ((l, o) :: rest)) (hj : J 0 m₀)
    (turn : ∀ i v m₁ h tk own, vs[i]? = some v → OwnOff own (rest.map (·.1)) → J i m₁ → Fr h₀ env.locals h (fun y => if y = x then some v else m₁ y) → News h₀ env.locals h (rest ++ own) →
      wpAny (model prog w) A (execs body env) (InvPostN h₀ env.locals (fun m' nx => nx = rest ∧ J (i + 1) m') own (rest.map (·.1)) { s with heap := h, toks := tk } Q) E { s with heap := h, toks := tk })
    (done : ∀ m₁ h tk, J vs.length m₁ → Fr h₀ env.locals h m₁ → News h₀ env.locals h rest → Q .next { s with heap := h, toks := tk }) :
    wpAny (model prog w) A (pyIter (.ref l)) (fun it s₂ => LoopAtV prog w A h₀ env x body Q E it s₂) E s := by
  have hol : s.heap.get? l = some o := (N (l, o) List.mem_cons_self).1
  have hne : l ≠ s.heap.objs.size := Nat.ne_of_lt (Heap.lt_size hol)
  have N' : News h₀ env.locals s.heap rest := fun p hp => N p (List.mem_cons_of_mem _ hp)
  refine wpAny_pyIter_list hls ?_
  have W := Walks.list (prog := prog) (w := w) hh s.heap.objs.size l hne vs.toArray
  refine loop_invN (fun i m nx => nx = rest ∧ J i m) W ?_ ?_ ?_ ?_ ⟨⟨_, Heap.get?_push_size _ rfl, rfl, rfl⟩, hls.at fun o e => Heap.get?_push_of_some _ e⟩ (F.push _) (fun p hp => ⟨Heap.get?_push_of_some _ (N' p hp).1, (N' p hp).2⟩) ⟨rfl, hj⟩ ?_ ?_
  · intro hm
    rcases List.mem_cons.mp hm with e | hm
    · exact absurd F.ns.lt (e ▸ Nat.lt_irrefl _)
    · have e := List.mem_singleton.mp hm
      have := F₀.ns.lt
      rw [e, hlo] at this
      exact absurd this (Nat.lt_irrefl _)
  · intro b hb
    rw [List.mem_singleton.mp hb]
    exact next_is_new F
  · intro p hp hI
    exact absurd (Heap.lt_size (N' p hp).1) ((List.mem_singleton.mp hI) ▸ Nat.lt_irrefl _)
  · intro p hp hI
    rcases List.mem_cons.mp hI with e | hm
    · exact absurd (Heap.lt_size (N' p hp).1) (e ▸ Nat.lt_irrefl _)
    · have h1 := Heap.lt_size (N₀ p hp).1
      rw [List.mem_singleton.mp hm, hlo] at h1
      exact absurd h1 (Nat.lt_irrefl _)
  · rintro i v m₁ nx h tk own _ hP _ hoff ⟨rfl, hJ⟩ F₁ N₁
    exact turn i v m₁ h tk own (by simpa using hP) hoff hJ F₁ N₁
  · rintro m₁ nx h tk ⟨rfl, hJ⟩ F₁ N₁
    exact done m₁ h tk (by simpa using hJ) F₁ N₁
theorem kst_split {σ : Type} {l : Addr} {o : Obj} {vs : List Value} {m₀ m₀' : Str → Option Value} {rest : List (Addr × Obj)} {hOld : Heap} (ps : σ → List (Str × Value)) (stored : List Str) (P : Nat → σ → Prop) (c₀ : σ)
    (hh : A.handled = none) (hls : s.heap.IsList l vs.toArray) (hlo : l = hOld.objs.size) (F₀ : Fr h₀ env.locals hOld m₀') (N₀ : News h₀ env.locals hOld rest)
    (F : Fr h₀ env.locals s.heap m₀) (N : News h₀ env.locals s.heap ((l, o) :: rest)) (hk : ∀ p ∈ ps c₀, m₀ p.1 = some p.2) (hp : P 0 c₀)
    (turn : ∀ (c : σ) i v (u : Str → Option Value) h tk own, vs[i]? = some v → OwnOff own (rest.map (·.1)) → P i c → Fr h₀ env.locals h (fun y => if y = x then some v else kstB (fun z => if stored.contains z then u z else m₀ z) (ps c) y) → News h₀ env.locals h (rest ++ own) →
      wpAny (model prog w) A (execs body env) (InvPostN h₀ env.locals (KstS (fun _ => rest) ps (fun _ => True) x stored m₀ (fun l c => P l.length c) (rangeKs 0 (i + 1))) own (rest.map (·.1)) { s with heap := h, toks := tk } Q) E { s with heap := h, toks := tk })
    (done : ∀ (c : σ) (u : Str → Option Value) h tk, P vs.length c → Fr h₀ env.locals h (fun y => if y = x then u y else kstB (fun z => if stored.contains z then u z else m₀ z) (ps c) y) → News h₀ env.locals h rest → Q .next { s with heap := h, toks := tk }) :
    wpAny (model prog w) A (pyIter (.ref l)) (fun it s₂ => LoopAtV prog w A h₀ env x body Q E it s₂) E s := by
  refine iter_split (fun i m => KstS (fun _ => rest) ps (fun _ => True) x stored m₀ (fun l c => P l.length c) (rangeKs 0 i) m rest) hh hls hlo F₀ N₀ F N ⟨c₀, rfl, trivial, hk, fun _ _ _ _ => rfl, by show P (rangeKs 0 0).length c₀; rw [rangeKs_length]; exact hp⟩ ?_ ?_
  · rintro i v m₁ h tk own hv hoff ⟨c, _, _, h1, h2, hp'⟩ F₁ N₁
    have hp' : P (rangeKs 0 _).length c := hp'
    rw [rangeKs_length] at hp'
    refine wpAny_mono (turn c i v m₁ h tk own hv hoff hp' (kst_fr h1 h2 F₁) N₁) (fun f s₂ p => ?_) fun _ _ x => x
    have up : InvEndN h₀ env.locals (KstS (fun _ => rest) ps (fun _ => True) x stored m₀ (fun l c => P l.length c) (rangeKs 0 (i + 1))) own (rest.map (·.1)) { s with heap := h, toks := tk } s₂ →
        InvEndN h₀ env.locals (fun m' nx => nx = rest ∧ KstS (fun _ => rest) ps (fun _ => True) x stored m₀ (fun l c => P l.length c) (rangeKs 0 (i + 1)) m' rest) own (rest.map (·.1)) { s with heap := h, toks := tk } s₂ := by
      rintro ⟨h', tk', m', news', nx', e', F', N', hn', ho', ha, hS⟩
      obtain ⟨c', en, hS'⟩ := hS
      exact ⟨h', tk', m', news', nx', e', F', N', hn', ho', ha, en, c', rfl, hS'⟩
    cases f with
    | ret v => exact p
    | brk => exact p
    | next => exact up p
    | cont => exact up p
  · rintro m₁ h tk ⟨c, _, _, h1, h2, hp'⟩ F₁ N₁
    have hp' : P (rangeKs 0 _).length c := hp'
    rw [rangeKs_length] at hp'
    exact done c m₁ h tk hp' (kst_frOut h1 h2 F₁) N₁
end
end Mine
end
section
open PySem PySem.W PyProof.Rows PySem.Calls
set_option Elab.async false
namespace Mine
def figs : Str := Str.ofString "0123456789"
def isFig (c : Str) : Bool := !(Builtin.Str.occurrences figs c 0 figs.length 1).isEmpty
def addSign (f c : Str) : Str := if (f == Str.ofString "0") = true then c else f ++ c
def goSigns (f : Str) : List Nat → Option Str
  | [] => some f
  | c :: cs => if isFig ⟨#[c]⟩ = true then goSigns (addSign f ⟨#[c]⟩) cs else none
def goGroups (f : Str) : List Str → Option Str
  | [] => some f
  | g :: gs => if (g == Str.ofString "") = true then none else (goSigns f g.cps.toList).bind fun f' => goGroups f' gs
def signAt (k : Str) : Bool := !(Builtin.Str.occurrences (Str.ofString "+-") (Txt.item k 0) 0 (Str.ofString "+-").length 1).isEmpty
def bareF (k : Str) : Str := if signAt k = true then Txt.slice k (some 1) none else k
def endF (minus : Bool) (f : Str) : Str := if (minus && !(f == Str.ofString "0")) = true then Str.ofString "-" ++ f else f
def plainF (x : Str) : Option Str := if placesL x = [] then none else (goGroups (Str.ofString "") (Txt.split (bareF (keptF x)) (Str.ofString "_"))).map (endF (Txt.item (keptF x) 0 == Str.ofString "-"))
theorem addSign_len {f c : Str} (hc : c.length = 1) : (addSign f c).length ≤ f.length + 1 := by
  unfold addSign
  split
  · omega
  · rw [Str.length_append]; omega
end Mine
namespace Mine
open PySem PySem.W PyProof.Rows PySem.Calls
abbrev strsOf {vs : List Value} {ss : List Str} (_h : StrsAre vs ss) : List Str := ss
theorem strs_item : ∀ {vs : List Value} {ss : List Str}, StrsAre vs ss → ∀ {i : Nat} {v : Value}, vs[i]? = some v → ∃ g t, v = .str g t ∧ ss[i]? = some g
  | _, _, .nil, i, v, h => by simp at h
  | _, _, .cons x t _, 0, v, h => ⟨x, t, by simpa using h.symm, by simp⟩
  | _, _, .cons x t hs, i + 1, v, h => by
    simp only [List.getElem?_cons_succ] at h ⊢
    exact strs_item hs h
def PO (gs : List Str) (i : Nat) (f : Str) : Prop := goGroups (Str.ofString "") gs = goGroups f (gs.drop i) ∧ f.length ≤ 100 * i
def PI (f0 g : Str) (pre : List Int) (f : Str) : Prop := goSigns f0 g.cps.toList = goSigns f (g.cps.toList.drop pre.length) ∧ f.length ≤ f0.length + pre.length
theorem PO_nil (gs : List Str) : PO gs 0 (Str.ofString "") := ⟨rfl, Nat.le_refl _⟩
theorem PI_nil (f g : Str) : PI f g [] f := ⟨rfl, Nat.le_refl _⟩
theorem PI_at {g : Str} {pre post : List Int} {n : Nat} (e : KStt.codes g = pre ++ (n : Int) :: post) : g.cps.toList.drop pre.length = n :: g.cps.toList.drop (pre.length + 1) := by
  have hl : pre.length < g.cps.toList.length := by
    have := congrArg List.length e
    simp only [KStt.codes, List.length_map, List.length_append, List.length_cons] at this
    omega
  have hg : g.cps.toList[pre.length] = n := by
    have h1 : (KStt.codes g)[pre.length]? = some (n : Int) := by rw [e]; simp
    unfold KStt.codes at h1
    rw [List.getElem?_map, List.getElem?_eq_getElem hl] at h1
    exact Int.ofNat_inj.mp (Option.some.inj h1)
  rw [List.drop_eq_getElem_cons hl, hg]
theorem PI_step {f0 g f : Str} {pre post : List Int} {n : Nat} (e : KStt.codes g = pre ++ (n : Int) :: post) (hf : isFig ⟨#[n]⟩ = true) (h : PI f0 g pre f) : PI f0 g (pre ++ [(n : Int)]) (addSign f ⟨#[n]⟩) := by
  refine ⟨?_, ?_⟩
  · rw [h.1, PI_at e, List.length_append]
    show (if isFig ⟨#[n]⟩ = true then goSigns (addSign f ⟨#[n]⟩) _ else none) = _
    rw [if_pos hf]; rfl
  · have := addSign_len (f := f) (c := ⟨#[n]⟩) rfl
    have h2 := h.2
    rw [List.length_append]
    simp only [List.length_cons, List.length_nil]
    omega
theorem PI_bad {f0 g f : Str} {pre post : List Int} {n : Nat} (e : KStt.codes g = pre ++ (n : Int) :: post) (hf : isFig ⟨#[n]⟩ = false) (h : PI f0 g pre f) : goSigns f0 g.cps.toList = none := by
  rw [h.1, PI_at e]
  show (if isFig ⟨#[n]⟩ = true then goSigns (addSign f ⟨#[n]⟩) _ else none) = _
  rw [hf]; rfl
theorem PO_at {gs : List Str} {i : Nat} {g f : Str} (hg : gs[i]? = some g) (h : PO gs i f) : goGroups (Str.ofString "") gs = if (g == Str.ofString "") = true then none else (goSigns f g.cps.toList).bind fun f' => goGroups f' (gs.drop (i + 1)) := by
  obtain ⟨hi, e⟩ := List.getElem?_eq_some_iff.mp hg
  rw [h.1, List.drop_eq_getElem_cons hi, e]; rfl
theorem PO_step {gs : List Str} {i : Nat} {g f f' : Str} (hg : gs[i]? = some g) (hl : g.length ≤ 100) (hne : (g == Str.ofString "") = false) (h : PO gs i f) (hI : PI f g (KStt.codes g) f') : PO gs (i + 1) f' := by
  refine ⟨?_, ?_⟩
  · rw [PO_at hg h, hne]
    have h1 := hI.1
    rw [KStt.codes_length, List.drop_eq_nil_of_le (by exact Nat.le_refl _)] at h1
    rw [h1]; rfl
  · have h1 := hI.2
    have h2 := h.2
    rw [KStt.codes_length] at h1
    omega
theorem PO_done {gs : List Str} {f : Str} (h : PO gs gs.length f) : goGroups (Str.ofString "") gs = some f := by
  rw [h.1, List.drop_eq_nil_of_le (Nat.le_refl _)]; rfl
end Mine
end
section
open PySem PySem.W PyProof.Rows PySem.Calls
set_option Elab.async false
namespace Mine
abbrev placesA (x : Str) : List Int := (rangeKs 0 ((x.length : Int) - 0).toNat).foldl (placesG x) []
abbrev keptA (x : Str) : Str := Txt.slice x (some ((placesA x).getD 0 0)) (some ((placesA x).getD ((placesA x).length - 1) 0 + 1))
theorem bare_len (k : Str) : (bareF k).length ≤ k.length := by
  unfold bareF
  split
  · exact Txt.slice_le _ _ _
  · exact Nat.le_refl _
theorem bareK_len {x : Str} (h : x.length ≤ 100) : (bareF (keptF x)).length ≤ 100 := Nat.le_trans (bare_len _) (Nat.le_trans (kept_le x) h)
theorem bare1 {x : Str} (h : (Builtin.Str.occurrences (Str.ofString "+-") (Txt.item (keptA x) 0) 0 (Str.ofString "+-").length 1).isEmpty = true) : keptA x = bareF (keptF x) := by
  show keptF x = _
  have e : signAt (keptF x) = false := by
    show (!(Builtin.Str.occurrences (Str.ofString "+-") (Txt.item (keptA x) 0) 0 (Str.ofString "+-").length 1).isEmpty) = false
    rw [h]; rfl
  rw [bareF, e]; rfl
theorem bare2 {x : Str} (h : (Builtin.Str.occurrences (Str.ofString "+-") (Txt.item (keptA x) 0) 0 (Str.ofString "+-").length 1).isEmpty = false) : Txt.slice (keptA x) (some 1) none = bareF (keptF x) := by
  show Txt.slice (keptF x) (some 1) none = _
  have e : signAt (keptF x) = true := by
    show (!(Builtin.Str.occurrences (Str.ofString "+-") (Txt.item (keptA x) 0) 0 (Str.ofString "+-").length 1).isEmpty) = true
    rw [h]; rfl
  rw [bareF, e, if_pos rfl]
theorem grp_all {ss : List Str} {y b : Str} (h : ∀ a ∈ ss, a.length ≤ y.length) (e : y = b) (hb : b.length ≤ 100) : ∀ a ∈ ss, a.length ≤ 100 := fun a ha => Nat.le_trans (h a ha) (e ▸ hb)
theorem grp_split {ss : List Str} {y b u : Str} (h : ss = Txt.split y u) (e : y = b) : ss = Txt.split b u := e ▸ h
theorem grp_i {ss : List Str} {b u g : Str} {i : Nat} (h : ss = Txt.split b u) (hb : b.length ≤ 100) (hg : ss[i]? = some g) : i ≤ 102 := by
  obtain ⟨hi, _⟩ := List.getElem?_eq_some_iff.mp hg
  have := split_le b u
  rw [← h] at this
  omega
theorem PO_size {gs : List Str} {i : Nat} {f : Str} (h : PO gs i f) (hi : i ≤ 102) : f.length ≤ 10200 := by
  have := h.2
  omega
theorem PI_size {f0 g f : Str} {pre post : List Int} {n : Nat} (h : PI f0 g pre f) (h0 : f0.length ≤ 10200) (e : KStt.codes g = pre ++ (n : Int) :: post) (hg : g.length ≤ 100) : f.length + (⟨#[n]⟩ : Str).length ≤ sizeLine := by
  have h1 := h.2
  have h2 := congrArg List.length e
  rw [KStt.codes_length, List.length_append] at h2
  have h3 : (⟨#[n]⟩ : Str).length = 1 := rfl
  rw [sizeLine_eq]
  omega
theorem fig_yes {n : Nat} (h : (Builtin.Str.occurrences (Str.ofString "0123456789") ⟨#[n]⟩ 0 (Str.ofString "0123456789").length 1).isEmpty = false) : isFig ⟨#[n]⟩ = true := by
  show (!(Builtin.Str.occurrences (Str.ofString "0123456789") ⟨#[n]⟩ 0 (Str.ofString "0123456789").length 1).isEmpty) = true
  rw [h]; rfl
theorem fig_no {n : Nat} (h : (Builtin.Str.occurrences (Str.ofString "0123456789") ⟨#[n]⟩ 0 (Str.ofString "0123456789").length 1).isEmpty = true) : isFig ⟨#[n]⟩ = false := by
  show (!(Builtin.Str.occurrences (Str.ofString "0123456789") ⟨#[n]⟩ 0 (Str.ofString "0123456789").length 1).isEmpty) = false
  rw [h]; rfl
section
variable {f0 g f : Str} {pre post : List Int} {n : Nat}
theorem PI_new (e : KStt.codes g = pre ++ (n : Int) :: post) (hf : (Builtin.Str.occurrences (Str.ofString "0123456789") ⟨#[n]⟩ 0 (Str.ofString "0123456789").length 1).isEmpty = false) (h0 : (f == Str.ofString "0") = true) (h : PI f0 g pre f) : PI f0 g (pre ++ [(n : Int)]) ⟨#[n]⟩ := by
  have := PI_step e (fig_yes hf) h
  rwa [addSign, if_pos h0] at this
theorem PI_more (e : KStt.codes g = pre ++ (n : Int) :: post) (hf : (Builtin.Str.occurrences (Str.ofString "0123456789") ⟨#[n]⟩ 0 (Str.ofString "0123456789").length 1).isEmpty = false) (h0 : (f == Str.ofString "0") = false) (h : PI f0 g pre f) : PI f0 g (pre ++ [(n : Int)]) (f ++ ⟨#[n]⟩) := by
  have := PI_step e (fig_yes hf) h
  rwa [addSign, if_neg (by rw [h0]; decide)] at this
end
theorem plain_groups {x : Str} (h : goGroups (Str.ofString "") (Txt.split (bareF (keptF x)) (Str.ofString "_")) = none) : plainF x = none := by
  unfold plainF
  split
  · rfl
  · rw [h]; rfl
theorem plain_nil {x : Str} (h : decide (placesA x = []) = true) : plainF x = none := by
  unfold plainF
  exact if_pos (of_decide_eq_true h)
theorem plain_empty {x g f : Str} {ss : List Str} {i : Nat} (e : ss = Txt.split (bareF (keptF x)) (Str.ofString "_")) (hg : ss[i]? = some g) (h : PO ss i f) (h0 : (g == Str.ofString "") = true) : plainF x = none := by
  refine plain_groups ?_
  rw [← e, PO_at hg h, h0]; rfl
theorem plain_bad {x g f f' : Str} {ss : List Str} {i : Nat} {pre post : List Int} {n : Nat} (e : ss = Txt.split (bareF (keptF x)) (Str.ofString "_")) (hg : ss[i]? = some g) (h : PO ss i f) (h0 : (g == Str.ofString "") = false)
    (eI : KStt.codes g = pre ++ (n : Int) :: post) (hn : (Builtin.Str.occurrences (Str.ofString "0123456789") ⟨#[n]⟩ 0 (Str.ofString "0123456789").length 1).isEmpty = true) (hI : PI f g pre f') : plainF x = none := by
  refine plain_groups ?_
  rw [← e, PO_at hg h, h0, PI_bad eI (fig_no hn) hI]; rfl
theorem plain_some {x f : Str} {ss : List Str} {k : Nat} (hp : decide (placesA x = []) = false) (e : ss = Txt.split (bareF (keptF x)) (Str.ofString "_")) (h : PO ss k f) (hk : k = ss.length) : plainF x = some (endF (Txt.item (keptA x) 0 == Str.ofString "-") f) := by
  subst hk
  unfold plainF
  have hn : ¬ placesL x = [] := of_decide_eq_false hp
  rw [if_neg hn, ← e, PO_done h]; rfl
theorem plain_one {x f : Str} {ss : List Str} {k : Nat} (hp : decide (placesA x = []) = false) (e : ss = Txt.split (bareF (keptF x)) (Str.ofString "_")) (h : PO ss k f) (hk : k = ss.length)
    (hm : (Txt.item (keptA x) 0 == Str.ofString "-") = false) : plainF x = some f := by
  rw [plain_some hp e h hk, hm]; rfl
theorem plain_two {x f : Str} {ss : List Str} {k : Nat} (hp : decide (placesA x = []) = false) (e : ss = Txt.split (bareF (keptF x)) (Str.ofString "_")) (h : PO ss k f) (hk : k = ss.length)
    (hf : (f != Str.ofString "0") = false) : plainF x = some f := by
  have hf' : (f == Str.ofString "0") = true := by simpa [bne] using hf
  rw [plain_some hp e h hk, endF, hf']; simp
theorem plain_three {x f : Str} {ss : List Str} {k : Nat} (hp : decide (placesA x = []) = false) (e : ss = Txt.split (bareF (keptF x)) (Str.ofString "_")) (h : PO ss k f) (hk : k = ss.length)
    (hm : (Txt.item (keptA x) 0 == Str.ofString "-") = true) (hf : (f != Str.ofString "0") = true) : plainF x = some (Str.ofString "-" ++ f) := by
  have hf' : (f == Str.ofString "0") = false := by
    cases q : (f == Str.ofString "0") with
    | false => rfl
    | true => rw [bne, q] at hf; cases hf
  rw [plain_some hp e h hk, endF, hf', hm]; rfl
section
variable {Q : Value → Shared → Prop} {h₀ h' : Heap} {L : Addr} {m : Str → Option Value} {news all : List (Addr × Obj)} {s : Shared} {x : Str} {tk : Nat}
theorem plain_retN (hret : ∀ (h' : Heap) (tk' : Nat) (t' : Tok), Fr h₀ L h' m → News h₀ L h' news → Q (match plainF x with | some y => .str y t' | none => .none) { s with heap := h', toks := tk' })
    (e : plainF x = none) (F : Fr h₀ L h' m) (N : News h₀ L h' all) (sub : ∀ p ∈ news, p ∈ all) : Q .none { s with heap := h', toks := tk } := by
  have := hret h' tk 0 F (fun p hp => N p (sub p hp))
  rwa [e] at this
theorem plain_retS {y : Str} {t : Tok} (hret : ∀ (h' : Heap) (tk' : Nat) (t' : Tok), Fr h₀ L h' m → News h₀ L h' news → Q (match plainF x with | some y => .str y t' | none => .none) { s with heap := h', toks := tk' })
    (e : plainF x = some y) (F : Fr h₀ L h' m) (N : News h₀ L h' all) (sub : ∀ p ∈ news, p ∈ all) : Q (.str y t) { s with heap := h', toks := tk } := by
  have := hret h' tk t F (fun p hp => N p (sub p hp))
  rwa [e] at this
end
structure Held (P : Prop) : Prop where h : P
theorem held {P : Prop} (x : Held P) : P := x.h
end Mine
end
section
open PySem PySem.W PyProof.Rows PySem.Calls
set_option Elab.async false
namespace Mine
set_option pp.maxSteps 400000
set_option pp.deepTerms false
set_option pp.deepTerms.threshold 6
theorem places_no' {x : Str} {l : List Int} {k : Int} (h : (Builtin.Str.occurrences (Str.ofString " \t") (Txt.item x k) 0 (Str.ofString " \t").length 1).isEmpty = false) : placesG x l k = l := places_no (by rw [h]; decide)
abbrev ofLen {x : Str} {n : Nat} (_h : x.length ≤ n) : Str := x
local macro_rules | `(tactic| walk_at "CompSrcT") => `(tactic| (k_here; (with_reducible rename PySem.Str.length _ ≤ 100 => hlx); k_dflt (refine LCt.CompSrcT.range (by rfl) (by k_asm) (by k_asm) (by assumption) (by first | decide | exact small_one (by l_bnd) (by l_bnd) (by l_bnd) (by l_bnd)) (by first | exact rangeSize_nat _ _ | rfl) (by first | exact Nat.le_of_ble_eq_true rfl | (rw [PySem.sizeLine_eq]; omega) | size_fits) ?_; intro g'; (refine' kci_range (placesG (ofLen hlx)) (fun k' t' I' oI' C' oC' D' m' ys' l' h' tk' E' hlo' hhi' hI' hC' hx' F' N' off' ne' => ?_) ?_ (places_grow _)); (all_goals (try (simp only [LCg.Off3, and_true] at off'))); (all_goals (try ((show KPfMark → _); intro hMark'))))))
local macro_rules | `(tactic| walk_at "KCiEl") => `(tactic| (refine kci_el (places_yes (by with_reducible assumption)) (by with_unfolding_all rfl) (by with_unfolding_all rfl)))
local macro_rules | `(tactic| walk_at "KCiNo") => `(tactic| (refine kci_no (places_no' (by with_reducible assumption)) (by with_unfolding_all rfl)))
theorem pos_of_dec {l : List Int} (h : decide (l = []) = false) : 0 < l.length := by
  cases l with
  | nil => simp at h
  | cons _ _ => simp
theorem small_of {ys : List Value} {ns : List Int} {x : Str} (hI : IntsAre ys ns) (h : ys.length ≤ ((x.length : Int) - 0).toNat) (hx : x.length ≤ 100) : ns.length ≤ sizeLine := by
  rw [sizeLine_eq]; have := hI.length; omega
theorem kci_endEl {h₀ L I C D m s₁ oI oC oD} {S : List (Addr × Obj) → Prop} {y : Value} {h' tk all news l r} (F : Fr h₀ L h' m) (N : News h₀ L h' all) (sub : ∀ p ∈ (I, oI) :: (C, oC) :: (D, oD) :: news, p ∈ all) (off : LCg.Off3 I C D news) (hS : S news) (q : KCiEl news l r y news) :
    LCg.CompEnd h₀ L m s₁ I oI C oC D oD S (fun y news' => KCiEl news l r y news') y { s₁ with heap := h', toks := tk } := LCg.CompEnd.intro F N news sub off hS q
theorem kci_endNo {h₀ L I C D m s₁ oI oC oD} {S : List (Addr × Obj) → Prop} {h' tk all news l r} (F : Fr h₀ L h' m) (N : News h₀ L h' all) (sub : ∀ p ∈ (I, oI) :: (C, oC) :: (D, oD) :: news, p ∈ all) (off : LCg.Off3 I C D news) (hS : S news) (q : KCiNo news l r news) :
    LCg.CompEnd h₀ L m s₁ I oI C oC D oD S (fun _ news' => KCiNo news l r news') Value.none { s₁ with heap := h', toks := tk } := LCg.CompEnd.intro F N news sub off hS q
local macro_rules | `(tactic| walk_at "CompEnd") => `(tactic| (with_unfolding_all first | (refine kci_endEl (by with_reducible assumption) (by with_reducible assumption) (by kcf_all) (by first | with_reducible assumption | (simp only [LCg.Off3, and_true]; done) | (simp only [LCg.Off3, and_true]; with_reducible assumption)) (by first | lcg_src | assumption) ?_) | (refine kci_endNo (by with_reducible assumption) (by with_reducible assumption) (by kcf_all) (by first | with_reducible assumption | (simp only [LCg.Off3, and_true]; done) | (simp only [LCg.Off3, and_true]; with_reducible assumption)) (by first | lcg_src | assumption) ?_)))
local macro_rules | `(tactic| walk_at "subscriptTail Name Constant ref int") => `(tactic| (k_here; (with_reducible show wpAny _ _ (subscriptTail _ _ (Value.ref _) (Value.int _ _)) _ _ _); k_dflt (refine' firstInt_K ?N ?b ?S ?k0 ?z ?_ ?w; (case N => k_asm); (case b => k_mem); (case S => with_reducible assumption); (case k0 => exact pos_of_dec (by with_reducible assumption)); (case z => exact small_of (by with_reducible assumption) (by with_reducible assumption) (by with_reducible assumption)); (case w => with_unfolding_all rfl); k_whole; intro t'; (try dsimp only))))
theorem kept_pos' {x : Str} (h : decide ((rangeKs 0 ((x.length : Int) - 0).toNat).foldl (placesG x) [] = []) = false) : (0 : Int) < ((keptF x).length : Int) := Int.ofNat_lt.mpr (kept_pos (pos_of_dec h))
theorem kept_16 {x : Str} (h : x.length ≤ 100) : (keptF x).length ≤ 16777216 := by have := kept_le x; omega
local macro_rules | `(tactic| walk_at "subscriptTail Name Constant str int") => `(tactic| (k_here; (with_reducible show wpAny _ _ (subscriptTail _ _ (Value.str _ _) (Value.int _ _)) _ _ _); (with_reducible rename PySem.Str.length _ ≤ 100 => hlx); (refine KXi.item (n := (keptF (ofLen hlx)).length) rfl (by omega) (kept_pos' (by with_reducible assumption)) (kept_16 hlx) ?_); intro kxiE))
local macro_rules | `(tactic| walk_at "subscriptTail Name UnaryOp ref int") => `(tactic| (k_here; (with_reducible show wpAny _ _ (subscriptTail _ _ (Value.ref _) (Value.int _ _)) _ _ _); k_dflt (refine' lastInt_K ?N ?b ?S ?k0 ?z ?_ ?w; (case N => k_asm); (case b => k_mem); (case S => with_reducible assumption); (case k0 => exact pos_of_dec (by with_reducible assumption)); (case z => exact small_of (by with_reducible assumption) (by with_reducible assumption) (by with_reducible assumption)); (case w => with_unfolding_all rfl); k_whole; intro t'; (try dsimp only))))
theorem PO_sizeL {ss : List Str} {vs : List Value} {f b u : Str} (h : PO ss vs.length f) (hS : StrsAre vs ss) (e : ss = Txt.split b u) (hb : b.length ≤ 100) : f.length ≤ 10200 := by
  refine PO_size h ?_
  have := split_le b u
  rw [← e, ← hS.length] at this
  omega
theorem dash_size {f : Str} (h : f.length ≤ 10200) : (Str.ofString "-").length + f.length ≤ sizeLine := by
  have h2 : (Str.ofString "-").length = 1 := by decide +kernel
  rw [sizeLine_eq]; omega
local macro_rules | `(tactic| walk_at "binaryOp Add str str") => `(tactic| (dsimp only; (first | (refine SB.add ?_ (PI_size (by with_reducible assumption) (by with_reducible assumption) (by with_reducible assumption) (by with_reducible assumption))) | (refine SB.add ?_ (dash_size (by with_reducible assumption)))); intro tA kA; (try dsimp only)))
local macro_rules | `(tactic| walk_at "ZEND") => `(tactic| (with_unfolding_all refine' Held.mk (kst_end (⟨?a8, ?a9⟩ : Str × Tok) ?a1 ?a2 ?a3 ?a4 rfl trivial ?a5 ?a6 ?a7); (case a1 => k_asm); (case a2 => k_asm); (case a3 => kst_in); (case a4 => intro p hp; kst_mem); (case a5 => kst_all); (case a6 => (intro z h1 h2 h3; (try simp only [List.forall_mem_cons, List.not_mem_nil, false_implies, implies_true, and_true, ne_eq] at h2); (try simp only [List.contains_cons, List.contains_nil, Bool.or_false, Bool.or_eq_false_iff, beq_eq_false_iff_ne, ne_eq] at h3); (simp [kstB, h1, h2, h3]; done))); (case a7 => first | exact PI_new (by with_reducible assumption) (by with_reducible assumption) (by with_reducible assumption) (by with_reducible assumption) | exact PI_more (by with_reducible assumption) (by with_reducible assumption) (by with_reducible assumption) (by with_reducible assumption) | (rw [rangeKs_length]; exact PO_step (by with_reducible assumption) (by with_reducible assumption) (by with_reducible assumption) (by with_reducible assumption) (by with_reducible assumption)))))
local macro_rules | `(tactic| walk_at "InvPostN") => `(tactic| (dsimp only [InvPostN]; (with_reducible show InvEndN _ _ _ _ _ _ _); refine held ?_))
set_option maxRecDepth 100000 in
set_option maxHeartbeats 4000000 in
theorem plain_c {w : World} {mean : ExcName → Option Value} {mg mb : Str → Option Value} {news : List (Addr × Obj)} {x : Str} {t : Tok}
    {dp un : Nat} {gd : Option (List Code)} {cn : Str} {cs : Scope} {a : Addr} {ccd : Value} {cl : List (Str × Addr)} {outer : List Env} {A₀ : Around} {base h₀ : Heap} {L : Addr} {m : Str → Option Value} {s : Shared} {Q E : Value → Shared → Prop}
    (B : Below A₀ base outer h₀) (F : Fr h₀ L s.heap m) (X : (hd.heap_39 w.params).In h₀) (N : News h₀ L s.heap news) (T : Top hd.view_39 (looseW hd.view_39 [Str.ofString "_norm_version"]) mean mg mb h₀) (hk : cs.kind = .function)
    (hdp : dp + 2 < recursionLimit) (hun : un + 100 < cLine) (hlen : x.length ≤ 100)
    (hret : ∀ (h' : Heap) (tk' : Nat) (t' : Tok), Fr h₀ L h' m → News h₀ L h' news → Q (match plainF x with | some y => .str y t' | none => .none) { s with heap := h', toks := tk' }) :
    wpAny (model PySem.Challenge.rw_mq0063_01.row.prog w) (ktrTop dp un gd cn cs L a ccd cl outer) (call (.ref 48) [.str x t]) Q E s := by
  w_on
  k_with_none
  k_with "pyIter str" => (refine held ?_)
  w_strict (
  revert X; k_fill; intro X
  refine wpAny_call ?_
  k_dflt (refine' code_defC ?k1 ?k2 ?k3 ?k4 ?k5 ?kA ?kF ?kK ?k6 ?k7 ?k8 ?k9 ?kB ?kD ?_ ?c2 ?c3 ?c4; (case kA => exact rfl); (case kF => exact rfl); (case kK => first | exact rfl | assumption); (case k1 => k_asm); (case k2 => k_asm); (case k3 => k_asm); (case k4 => k_asm); (case k5 => k_asm); (case k6 => k_is); (case k7 => k_is); (case k8 => ktr_room); (case k9 => exact BindsTo.of_eq rfl); (case kB => exact rfl); (case kD => decide +kernel); (case c2 => exact rfl); (case c3 => exact rfl); (case c4 => exact rfl); k_whole; intro g' L' h' tk' cells' FG' F' N' Y' B' X' T' l1; (try k_lt l1); k_cells Y'; (try simp only [List.cons_append, List.nil_append] at N'); (try dsimp only); (try k_lift B'); (try k_fold))
  k_steps
  exact plain_retN hret (plain_nil (by assumption)) (by k_asm) (by assumption) (by intro p hp; simp only [List.mem_append, List.mem_cons, hp, true_or, or_true])
  all_goals (
    (with_reducible rename StrsAre (strValues _) _ => hSV)
    have eSV : strsOf hSV = Txt.split (bareF (keptF x)) (Str.ofString "_") := by
      first
        | exact grp_split (by with_reducible assumption) (bare1 (by with_reducible assumption))
        | exact grp_split (by with_reducible assumption) (bare2 (by with_reducible assumption))
    have hx100 : x.length ≤ 100 := by with_reducible assumption
    have lSV : ∀ a ∈ strsOf hSV, a.length ≤ 100 := by
      first
        | exact grp_all (by with_reducible assumption) (bare1 (by with_reducible assumption)) (bareK_len hx100)
        | exact grp_all (by with_reducible assumption) (bare2 (by with_reducible assumption)) (bareK_len hx100)
    (with_unfolding_all refine' kst_split (σ := Str × Tok) (fun c => [(Str.ofString "figures", Value.str c.1 c.2)]) [Str.ofString "sign"] (fun i c => PO (strsOf hSV) i c.1) ⟨Str.ofString "", _⟩ rfl ?hls rfl ?F0 ?N0 ?F ?N ?hk ?hp ?turn ?done)
    (case F => k_asm)
    (case N => k_asm)
    (case hls => assumption)
    (case F0 => k_asm)
    (case N0 => k_asm)
    (case hk => kst_all)
    (case hp => exact PO_nil _)
    (case turn =>
      rintro ⟨fS, fT⟩ iG vG uG hG tkG ownG hvG offG hPG FG NG
      obtain ⟨gS, tS, eS, hgS⟩ := strs_item hSV hvG
      subst eS
      have hgL : gS.length ≤ 100 := lSV _ (List.mem_of_getElem? hgS)
      have hfL : fS.length ≤ 10200 := PO_size hPG (grp_i eSV (bareK_len hx100) hgS)
      (try dsimp only at hPG FG ⊢)
      (try k_fold)
      have FG : Fr g' L' hG _ := FG
      have NG : News g' L' hG _ := NG
      k_steps
      exact plain_retN hret (plain_empty eSV hgS hPG (by with_reducible assumption)) (by k_asm) (by with_reducible assumption) (by intro p hp; simp only [List.mem_append, List.mem_cons, hp, true_or, or_true])
      refine Held.mk ?_
      (with_unfolding_all refine' KStt.kst_text (σ := Str × Tok) (fun _ => _) (fun c => [(Str.ofString "figures", Value.str c.1 c.2)]) (fun _ => True) [] (fun pre c => PI fS gS pre c.1) ⟨fS, fT⟩ rfl ?F2 ?N2 trivial ?hk2 ?hp2 ?turn2 ?done2)
      (case F2 => k_asm)
      (case N2 => k_asm)
      (case hk2 => kst_all)
      (case hp2 => exact PI_nil _ _)
      (case turn2 =>
        rintro ⟨fI, fU⟩ preI postI nI tI uI hI tkI ownI eI offI _ hPI FI NI
        (try dsimp only at hPI FI ⊢)
        (try k_fold)
        have FI : Fr g' L' hI _ := FI
        have NI : News g' L' hI _ := NI
        k_steps
        exact plain_retN hret (plain_bad eSV hgS hPG (by with_reducible assumption) eI (by with_reducible assumption) hPI) (by k_asm) (by with_reducible assumption) (by intro p hp; simp only [List.mem_append, List.mem_cons, hp, true_or, or_true])
        · walk_at "ZEND"
        · walk_at "ZEND")
      (case done2 =>
        rintro ⟨fI, fU⟩ uI hI tkI _ hPI FI NI
        (try dsimp only at hPI FI ⊢)
        (try k_fold)
        have FI : Fr g' L' hI _ := FI
        have NI : News g' L' hI _ := NI
        k_steps
        walk_at "ZEND"))
    (case done =>
      rintro ⟨fS, fT⟩ uG hG tkG hPG FG NG
      (try dsimp only at hPG FG ⊢)
      (try k_fold)
      have FG : Fr g' L' hG _ := FG
      have NG : News g' L' hG _ := NG
      have hfD : fS.length ≤ 10200 := PO_sizeL hPG hSV eSV (bareK_len hx100)
      have hkG : (strValues _).length = (strsOf hSV).length := hSV.length
      k_steps
      all_goals (first
        | exact plain_retS hret (plain_one (by with_reducible assumption) eSV hPG hkG (by with_reducible assumption)) (by k_asm) (by with_reducible assumption) (by intro p hp; simp only [List.mem_append, List.mem_cons, hp, true_or, or_true])
        | exact plain_retS hret (plain_three (by with_reducible assumption) eSV hPG hkG (by with_reducible assumption) (by with_reducible assumption)) (by k_asm) (by with_reducible assumption) (by intro p hp; simp only [List.mem_append, List.mem_cons, hp, true_or, or_true])
        | exact plain_retS hret (plain_two (by with_reducible assumption) eSV hPG hkG (by with_reducible assumption)) (by k_asm) (by with_reducible assumption) (by intro p hp; simp only [List.mem_append, List.mem_cons, hp, true_or, or_true]))))
  )
end Mine
end
section
open PySem PySem.W PyProof.Rows PySem.Calls
set_option Elab.async false
namespace Mine
inductive AreL {α : Type} (R : α → Value → Prop) : List Value → List α → Prop
  | nil : AreL R [] []
  | cons {a : α} {v : Value} {vs : List Value} {as : List α} : R a v → AreL R vs as → AreL R (v :: vs) (a :: as)
section
variable {α : Type} {R : α → Value → Prop}
theorem AreL.length : ∀ {vs : List Value} {as : List α}, AreL R vs as → vs.length = as.length
  | _, _, .nil => rfl
  | _, _, .cons _ h => congrArg Nat.succ h.length
theorem AreL.snoc {a : α} {v : Value} (ha : R a v) : ∀ {vs : List Value} {as : List α}, AreL R vs as → AreL R (vs ++ [v]) (as ++ [a])
  | _, _, .nil => .cons ha .nil
  | _, _, .cons h r => .cons h (AreL.snoc ha r)
theorem AreL.get : ∀ {vs : List Value} {as : List α}, AreL R vs as → ∀ {i : Nat} {a : α}, as[i]? = some a → ∃ v, vs[i]? = some v ∧ R a v
  | _, _, .nil, i, a, h => by simp at h
  | _, _, .cons (v := v) h r, 0, a, e => ⟨v, rfl, by simp only [List.getElem?_cons_zero, Option.some.injEq] at e; exact e ▸ h⟩
  | _, _, .cons h r, i + 1, a, e => by
    simp only [List.getElem?_cons_succ] at e ⊢
    exact AreL.get r e
theorem AreL.drop : ∀ {vs : List Value} {as : List α}, AreL R vs as → ∀ n, AreL R (vs.drop n) (as.drop n)
  | _, _, .nil, n => by simp only [List.drop_nil]; exact .nil
  | _, _, .cons h r, 0 => .cons h r
  | _, _, .cons h r, n + 1 => AreL.drop r n
theorem AreL.take : ∀ {vs : List Value} {as : List α}, AreL R vs as → ∀ n, AreL R (vs.take n) (as.take n)
  | _, _, .nil, n => by simp only [List.take_nil]; exact .nil
  | _, _, .cons h r, 0 => .nil
  | _, _, .cons h r, n + 1 => .cons h (AreL.take r n)
end
def OptIs (x : Option Str) (v : Value) : Prop := match x with | none => v = .none | some x => ∃ t, v = .str x t
def BoolIs (b : Bool) (v : Value) : Prop := v = .bool b
abbrev OptsAre := AreL OptIs
abbrev BolsAre := AreL BoolIs
theorem strs_of_opts : ∀ {vs : List Value} {os : List (Option Str)}, OptsAre vs os → none ∉ os → StrsAre vs (os.map fun o => o.getD Str.empty)
  | _, _, .nil, _ => .nil
  | _, _, .cons (a := some x) h r, hn => by
    obtain ⟨t, rfl⟩ := h
    exact .cons x t (strs_of_opts r fun q => hn (.tail _ q))
  | _, _, .cons (a := none) h r, hn => absurd (.head _) hn
def KdEl {α : Type} (R : α → Value → Prop) (news : List (Addr × Obj)) (a : α) (y : Value) (news' : List (Addr × Obj)) : Prop := news' = news ∧ R a y
theorem kd_end {α : Type} {R : α → Value → Prop} {a : α} {h₀ L I C D m s₁ oI oC oD} {S : List (Addr × Obj) → Prop} {y : Value} {h' tk all news} (F : Fr h₀ L h' m) (N : News h₀ L h' all) (sub : ∀ p ∈ (I, oI) :: (C, oC) :: (D, oD) :: news, p ∈ all) (off : LCg.Off3 I C D news) (hS : S news) (q : R a y) :
    LCg.CompEnd h₀ L m s₁ I oI C oC D oD S (fun y news' => KdEl R news a y news') y { s₁ with heap := h', toks := tk } := LCg.CompEnd.intro F N news sub off hS ⟨rfl, q⟩
def KsEl (news : List (Addr × Obj)) (l r : List Str) (y : Value) (news' : List (Addr × Obj)) : Prop := news' = news ∧ ∃ (a : Str) (t : Tok), y = .str a t ∧ r = l ++ [a]
def KsNo (news : List (Addr × Obj)) (l r : List Str) (news' : List (Addr × Obj)) : Prop := news' = news ∧ r = l
theorem ks_endEl {h₀ L I C D m s₁ oI oC oD} {S : List (Addr × Obj) → Prop} {h' tk all news l r} {a : Str} {t : Tok} (F : Fr h₀ L h' m) (N : News h₀ L h' all) (sub : ∀ p ∈ (I, oI) :: (C, oC) :: (D, oD) :: news, p ∈ all) (off : LCg.Off3 I C D news) (hS : S news) (q : r = l ++ [a]) :
    LCg.CompEnd h₀ L m s₁ I oI C oC D oD S (fun y news' => KsEl news l r y news') (.str a t) { s₁ with heap := h', toks := tk } := LCg.CompEnd.intro F N news sub off hS ⟨rfl, a, t, rfl, q⟩
theorem ks_endNo {h₀ L I C D m s₁ oI oC oD} {S : List (Addr × Obj) → Prop} {h' tk all news l r} (F : Fr h₀ L h' m) (N : News h₀ L h' all) (sub : ∀ p ∈ (I, oI) :: (C, oC) :: (D, oD) :: news, p ∈ all) (off : LCg.Off3 I C D news) (hS : S news) (q : r = l) :
    LCg.CompEnd h₀ L m s₁ I oI C oC D oD S (fun _ news' => KsNo news l r news') Value.none { s₁ with heap := h', toks := tk } := LCg.CompEnd.intro F N news sub off hS ⟨rfl, q⟩
section
variable {prog : Program} {w : World} {A : Around} {h₀ : Heap} {L : Addr} {m : Str → Option Value} {env : Env} {ct elt : Expr} {x : Str} {scope : Scope} {cl : List (Str × Addr)} {s : Shared} {S : List (Addr × Obj) → Prop} {P : Nat → Value → Prop} {Fin : List Value → List (Addr × Obj) → Prop} {news : List (Addr × Obj)}
theorem kd_rest {α : Type} {R : α → Value → Prop} {n : Nat} (g : Nat → α) (as : List α) (has : (List.range n).map g = as)
    (turn : ∀ i v I oI C oC D m₂ ys h tk (E' : Value → Shared → Prop), i < n → P i v → LCg.NsObj oC m₂ → m₂ x = some v → Fr h₀ L h m → News h₀ L h ((I, oI) :: (C, oC) :: (D, LCg.lst ys) :: news) → LCg.Off3 I C D news → ((@Ne Nat I C) ∧ (@Ne Nat I D) ∧ (@Ne Nat C D)) →
      wpAny (model prog w) A (eval elt (compEnvC scope cl C env)) (LCg.CompEnd h₀ L m { s with heap := h, toks := tk } I oI C oC D (LCg.lst ys) S (fun y news' => KdEl R news (g i) y news')) E' { s with heap := h, toks := tk })
    (fin : ∀ ys, AreL R ys as → ys.length = n → Fin ys news) : LCg.CompRest prog w A h₀ L m env elt x scope cl s S P Fin n 0 [] news := by
  have key : ∀ (j i : Nat) (ys : List Value), i + j = n → AreL R ys ((List.range i).map g) → LCg.CompRest prog w A h₀ L m env elt x scope cl s S P Fin j i ys news := by
    intro j
    induction j with
    | zero =>
      intro i ys hi hy
      have e : i = n := by omega
      subst e
      rw [has] at hy
      refine LCg.CompRest.zero (fin ys hy ?_)
      rw [hy.length, ← has]; simp
    | succ j ih =>
      intro i ys hi hy
      refine LCg.CompRest.succ ?_
      intro v I oI C oC D m₂ h tk E' hv hC hx F N off ne
      refine wpAny_mono (turn i v I oI C oC D m₂ ys h tk E' (by omega) hv hC hx F N off ne) (fun y s₂ hq => ?_) fun _ _ e => e
      obtain ⟨h', tk', nw, e, F', N', off', hS, hn, hy'⟩ := hq
      rw [hn] at N' off' hS
      refine ⟨h', tk', news, e, F', N', off', hS, ?_⟩
      refine ih (i + 1) _ (by omega) ?_
      rw [List.range_succ, List.map_append]
      exact hy.snoc hy'
  exact key n 0 [] (by omega) .nil
theorem ks_rest {n : Nat} {ks : List Int} (G : List Str → Int → List Str) (hks : ks.length = n) (hP : ∀ i v, i < n → P i v → ∃ k t, ks[i]? = some k ∧ v = .int k t)
    (turn : ∀ k t I oI C oC D m₂ ys l h tk (E' : Value → Shared → Prop), k ∈ ks → StrsAre ys l → LCg.NsObj oC m₂ → m₂ x = some (.int k t) → Fr h₀ L h m → News h₀ L h ((I, oI) :: (C, oC) :: (D, LCg.lst ys) :: news) → LCg.Off3 I C D news → ((@Ne Nat I C) ∧ (@Ne Nat I D) ∧ (@Ne Nat C D)) →
      wpAny (model prog w) A (isTrue ct (compEnvC scope cl C env) (eval ct (compEnvC scope cl C env))) (fun b s' => if b = true then wpAny (model prog w) A (eval elt (compEnvC scope cl C env)) (LCg.CompEnd h₀ L m { s with heap := h, toks := tk } I oI C oC D (LCg.lst ys) S (fun y news' => KsEl news l (G l k) y news')) E' s'
        else LCg.CompEnd h₀ L m { s with heap := h, toks := tk } I oI C oC D (LCg.lst ys) S (fun _ news' => KsNo news l (G l k) news') Value.none s') E' { s with heap := h, toks := tk })
    (fin : ∀ ys, StrsAre ys (ks.foldl G []) → Fin ys news) : LCt.CompRestT prog w A h₀ L m env ct elt x scope cl s S P Fin n 0 [] news := by
  have key : ∀ (j i : Nat) (ys : List Value), i + j = n → StrsAre ys ((ks.take i).foldl G []) → LCt.CompRestT prog w A h₀ L m env ct elt x scope cl s S P Fin j i ys news := by
    intro j
    induction j with
    | zero =>
      intro i ys hi hy
      have e : i = ks.length := by omega
      subst e
      rw [List.take_length] at hy
      exact LCt.CompRestT.zero (fin ys hy)
    | succ j ih =>
      intro i ys hi hy
      refine LCt.CompRestT.succ ?_
      intro v I oI C oC D m₂ h tk E' hv hC hx F N off ne
      obtain ⟨k, t, hk, hv'⟩ := hP i v (by omega) hv
      rw [hv'] at hx
      have hs : (ks.take (i + 1)).foldl G [] = G ((ks.take i).foldl G []) k := by
        rw [List.take_add_one, hk]; simp
      refine wpAny_mono (turn k t I oI C oC D m₂ ys _ h tk E' (List.mem_of_getElem? hk) hy hC hx F N off ne) (fun b s₂ hq => ?_) fun _ _ e => e
      cases b with
      | true =>
        simp only [if_true] at hq ⊢
        refine wpAny_mono hq (fun y s₃ hr => ?_) fun _ _ e => e
        obtain ⟨h', tk', nw, e, F', N', off', hS, hn, a, t', hy', hr'⟩ := hr
        rw [hn] at N' off' hS
        refine ⟨h', tk', news, e, F', N', off', hS, ?_⟩
        rw [hy']
        refine ih (i + 1) _ (by omega) ?_
        rw [hs, hr']
        exact StrsAre.append' hy (.cons a t' .nil)
      | false =>
        simp only [Bool.false_eq_true, if_false] at hq ⊢
        obtain ⟨h', tk', nw, e, F', N', off', hS, hn, hr'⟩ := hq
        rw [hn] at N' off' hS
        refine ⟨h', tk', news, e, F', N', off', hS, ih (i + 1) _ (by omega) ?_⟩
        rw [hs, hr']
        exact hy
  exact key n 0 [] (by omega) (by simp only [List.take_zero, List.foldl_nil]; exact .nil)
end
end Mine
end
section
open PySem PySem.W PyProof.Rows PySem.Calls
set_option Elab.async false
namespace Mine
structure CutNext (J : Shared → Prop) (f : Flow) (s' : Shared) : Prop where
  next : f = .next
  j : J s'
section
variable {prog : Program} {w : World} {A : Around} {E : Value → Shared → Prop} {s : Shared} {env : Env} {Q : Flow → Shared → Prop}
theorem cut1 {stmt : Stmt} {rest : List Stmt} (J : Shared → Prop) (h1 : wpAny (model prog w) A (exec stmt env) (CutNext J) E s)
    (h2 : ∀ s', J s' → wpAny (model prog w) A (execs rest env) Q E s') : wpAny (model prog w) A (execs (stmt :: rest) env) Q E s := by
  refine wpAny_execs_cons (wpAny_mono h1 (fun f s' h => ?_) fun _ _ e => e)
  obtain ⟨rfl, hj⟩ := h
  exact h2 s' hj
theorem cutV {α : Type} {t : Sem α} {Q : α → Shared → Prop} (J : α → Shared → Prop) (h1 : wpAny (model prog w) A t J E s) (h2 : ∀ a s', J a s' → Q a s') : wpAny (model prog w) A t Q E s :=
  wpAny_mono h1 h2 fun _ _ e => e
def LEnd (h₀ : Heap) (L : Addr) (Jn : (Str → Option Value) → List (Addr × Obj) → Prop) (own : List (Addr × Obj)) (s₁ : Shared) (f : Flow) (s₂ : Shared) : Prop :=
  f = .next ∧ ∃ h' tk m₂ news₂, s₂ = { s₁ with heap := h', toks := tk } ∧ Fr h₀ L h' m₂ ∧ News h₀ L h' (own ++ news₂) ∧ Jn m₂ news₂
theorem LEnd.intro {h₀ h' : Heap} {L : Addr} {own all news₂ : List (Addr × Obj)} {Jn : (Str → Option Value) → List (Addr × Obj) → Prop} {s₁ : Shared} {tk : Nat} {m₂ : Str → Option Value}
    (F : Fr h₀ L h' m₂) (N : News h₀ L h' all) (sub : ∀ p ∈ own ++ news₂, p ∈ all) (hJ : Jn m₂ news₂) : LEnd h₀ L Jn own s₁ .next { s₁ with heap := h', toks := tk } :=
  ⟨rfl, h', tk, m₂, news₂, rfl, F, fun p hp => N p (sub p hp), hJ⟩
theorem for_cell {h₀ : Heap} {x : Str} {px : Pos} {body : List Stmt} {r : Addr} {n : Nat} {t u v : Tok} {b : Int} {m : Str → Option Value} {news : List (Addr × Obj)} (J : Nat → (Str → Option Value) → List (Addr × Obj) → Prop)
    (hh : A.handled = none) (hr : IsRange s.heap r 0 b 1 t u v) (hb : b = ((n : Nat) : Int)) (hn : n ≤ 1000) (F : Fr h₀ env.locals s.heap m) (N : News h₀ env.locals s.heap news) (hJa : ∀ i m₁ news₁, J i m₁ news₁ → news₁.map (·.1) = news.map (·.1))
    (h0 : J 0 m news)
    (turn : ∀ i t m₁ news₁ s₁ own, i < n → J i m₁ news₁ → Fr h₀ env.locals s₁.heap m₁ → News h₀ env.locals s₁.heap (own ++ news₁) → (∀ p ∈ own, ∀ q ∈ news₁, p.1 ≠ q.1) →
      wpAny (model prog w) A (assign (.Name x px) env (.int (i : Int) t)) (fun _ s₃ => wpAny (model prog w) A (execs body env) (LEnd h₀ env.locals (J (i + 1)) own s₁) E s₃) E s₁)
    (done : ∀ m₁ news₁ h tk, J n m₁ news₁ → Fr h₀ env.locals h m₁ → News h₀ env.locals h news₁ → Q .next { s with heap := h, toks := tk }) :
    wpAny (model prog w) A (pyIter (.ref r)) (fun it s₂ => LoopAtT prog w A h₀ env (.Name x px) body Q E it s₂) E s := by
  subst hb
  have hsz : Builtin.Range.rangeSize 0 (n : Int) 1 = (n : Int) := by
    have := rangeSize_nat 0 n
    simpa using this
  have hsm : Builtin.Range.small 0 (n : Int) 1 = true := small_one (by omega) (by omega) (by omega) (by omega)
  refine wpAny_pyIter_range hr hsm ?_
  have W := LCg.range_walks (prog := prog) (w := w) (I := s.heap.objs.size) hh 0 n
  have hni : ∀ p ∈ news, p.1 ≠ s.heap.objs.size := fun p hp => Nat.ne_of_lt (Heap.lt_size (N p hp).1)
  have hJn : ∀ i m₁ news₁, J i m₁ news₁ → ∀ p ∈ news₁, p.1 ∉ [s.heap.objs.size] := by
    intro i m₁ news₁ hJ p hp hI
    have hm : p.1 ∈ news.map (·.1) := by rw [← hJa i m₁ news₁ hJ]; exact List.mem_map_of_mem hp
    obtain ⟨q, hq, e⟩ := List.mem_map.mp hm
    exact hni q hq (e.trans (List.mem_singleton.mp hI))
  refine ⟨s.heap.objs.size, _, _, n, _, _, m, news, J, rfl, W, ?_, ?_, ?_, ?_, F.push _, (fun p hp => ⟨Heap.get?_push_of_some _ (N p hp).1, (N p hp).2⟩), ?_, h0, ?_, ?_⟩
  · intro hm
    exact absurd F.ns.lt ((List.mem_singleton.mp hm) ▸ Nat.lt_irrefl _)
  · intro b hb
    rw [List.mem_singleton.mp hb]
    exact next_is_new F
  · intro p hp hI
    exact hni p hp (List.mem_singleton.mp hI)
  · show IsRangeIter _ _ _ _ _
    rw [hsz]
    simpa using Heap.get?_push_size _ rfl
  · intro i s' v Q' st hQ
    exact wpAny_of_eq rfl hQ
  · rintro i v m₁ news₁ s₁ own hi ⟨t, rfl⟩ hJ hoff hsub hown hall st F₁ N₁
    have e : (0 + (i : Int)) = (i : Int) := by omega
    rw [e]
    refine wpAny_mono (turn i t m₁ news₁ s₁ own hi hJ F₁ N₁ ?_) (fun _ s₃ h₃ => wpAny_mono h₃ (fun f s₄ h₄ => ?_) fun _ _ e => e) fun _ _ e => e
    · intro p hp q hq e
      exact hoff q hq (e ▸ hsub p hp)
    · obtain ⟨hf, h', tk, m₂, news₂, es, F₂, N₂, hJ₂⟩ := h₄
      exact ⟨hf, h', tk, m₂, news₂, es, F₂, N₂, hJn _ _ _ hJ₂, hJ₂⟩
  · intro h' tk m' news' F' N' _ hJ
    exact done m' news' h' tk hJ F' N'
end
end Mine
end
section
open PySem PySem.W PyProof.Rows PySem.Calls
set_option Elab.async false
namespace Mine
section
variable {prog : Program} {w : World} {A : Around} {E : Value → Shared → Prop} {s : Shared} {env : Env} {Q : Flow → Shared → Prop} {h₀ : Heap} {L : Addr} {m : Str → Option Value} {news : List (Addr × Obj)}
/-- after «drawn = ..» -/
def DrawnJ (h₀ : Heap) (L : Addr) (m : Str → Option Value) (news : List (Addr × Obj)) (s s' : Shared) : Prop :=
  ∃ d dvs ds n h tk, s' = { s with heap := h, toks := tk } ∧ IntsAre dvs ds ∧ (0 < ds.length ∧ ds.length ≤ 14) ∧ Fr h₀ L h (fun y => if y = Str.ofString "drawn" then some (.ref d) else m y) ∧ News h₀ L h ((d, listOf dvs.toArray n) :: news) ∧ ∀ p ∈ news, p.1 < d
theorem DrawnJ.intro {h tk d dvs ds n all m'} (hI : IntsAre dvs ds) (hl : 0 < ds.length ∧ ds.length ≤ 14) (F : Fr h₀ L h m') (hm : m' = fun y => if y = Str.ofString "drawn" then some (.ref d) else m y) (N : News h₀ L h all) (sub : ∀ p ∈ ((d, listOf dvs.toArray n) :: news), p ∈ all) (lt : ∀ p ∈ news, p.1 < d) :
    DrawnJ h₀ L m news s { s with heap := h, toks := tk } := ⟨d, dvs, ds, n, h, tk, rfl, hI, hl, hm ▸ F, fun p hp => N p (sub p hp), lt⟩
theorem cut_drawn {stmt : Stmt} {rest : List Stmt} (_F : Fr h₀ L s.heap m) (_N : News h₀ L s.heap news)
    (h1 : wpAny (model prog w) A (exec stmt env) (CutNext (DrawnJ h₀ L m news s)) E s)
    (h2 : ∀ d dvs ds n h tk, IntsAre dvs ds → (0 < ds.length ∧ ds.length ≤ 14) → Fr h₀ L h (fun y => if y = Str.ofString "drawn" then some (.ref d) else m y) → News h₀ L h ((d, listOf dvs.toArray n) :: news) → (∀ p ∈ news, p.1 < d) →
      wpAny (model prog w) A (execs rest env) Q E { s with heap := h, toks := tk }) : wpAny (model prog w) A (execs (stmt :: rest) env) Q E s := by
  refine cut1 _ h1 ?_
  rintro _ ⟨d, dvs, ds, n, h, tk, rfl, a, b, c, e, f⟩
  exact h2 d dvs ds n h tk a b c e f
end
theorem take14 {ns : List Int} (h : decide (ns = []) = false) : 0 < (ns.take 14).length ∧ (ns.take 14).length ≤ 14 := by
  have := of_decide_eq_false h
  have : 0 < ns.length := List.length_pos_iff.mpr this
  rw [List.length_take]; omega
theorem allLt_of {d : Addr} : ∀ {l : List (Addr × Obj)}, (∀ p ∈ l, p.1 < d) → AllLt d l
  | [], _ => trivial
  | _ :: _, h => ⟨h _ (.head _), allLt_of fun p hp => h p (.tail _ hp)⟩
theorem lt4 {x a b c e d : Addr} {oa ob oc oe : Obj} (h : @LT.lt Nat _ x d ∧ @LT.lt Nat _ a d ∧ @LT.lt Nat _ b d ∧ @LT.lt Nat _ c d ∧ @LT.lt Nat _ e d) : ∀ p ∈ [(a, oa), (b, ob), (c, oc), (e, oe)], p.1 < d := by
  simp only [List.forall_mem_cons, List.not_mem_nil, false_implies, implies_true, and_true]
  exact h.2
theorem map_len14 {f : Int → Int} {ds : List Int} (h : 0 < ds.length ∧ ds.length ≤ 14) : (ds.map f).length ≤ 14 := by rw [List.length_map]; exact h.2
end Mine
end
section
open PySem PySem.W PyProof.Rows PySem.Calls
set_option Elab.async false
namespace Mine
section
variable {prog : Program} {w : World} {A : Around} {E : Value → Shared → Prop} {s : Shared} {env : Env} {Q : Flow → Shared → Prop} {h₀ : Heap} {L : Addr} {m : Str → Option Value}
abbrev dObj (vs : List Value) (n : Nat) : Obj := listOf vs.toArray n
/-- after «parts = ..» -/
def PartsJ (h₀ : Heap) (L : Addr) (m : Str → Option Value) (d : Addr) (lo : Obj) (c4 c3 c2 c1 : Addr) (o4 o3 o2 : Obj) (ps : List Str) (s s' : Shared) : Prop :=
  ∃ l vs n o h tk, s' = { s with heap := h, toks := tk } ∧ StrsAre vs ps ∧ o.data = .cell (some (.ref l)) ∧ Fr h₀ L h m ∧ News h₀ L h ((l, dObj vs n) :: (d, lo) :: (c4, o4) :: (c3, o3) :: (c2, o2) :: (c1, o) :: []) ∧ AllLt l ((d, lo) :: (c4, o4) :: (c3, o3) :: (c2, o2) :: (c1, o) :: [])
theorem PartsJ.intro {d c4 c3 c2 c1 l : Addr} {lo o4 o3 o2 o : Obj} {ps : List Str} {vs : List Value} {n tk : Nat} {h : Heap} {all : List (Addr × Obj)} (hS : StrsAre vs ps) (ho : o.data = .cell (some (.ref l))) (F : Fr h₀ L h m) (N : News h₀ L h all)
    (sub : ∀ p ∈ ((l, dObj vs n) :: (d, lo) :: (c4, o4) :: (c3, o3) :: (c2, o2) :: (c1, o) :: []), p ∈ all) (lt : AllLt l ((d, lo) :: (c4, o4) :: (c3, o3) :: (c2, o2) :: (c1, o) :: [])) :
    PartsJ h₀ L m d lo c4 c3 c2 c1 o4 o3 o2 ps s { s with heap := h, toks := tk } := ⟨l, vs, n, o, h, tk, rfl, hS, ho, F, fun p hp => N p (sub p hp), lt⟩
theorem cut_parts {stmt : Stmt} {rest : List Stmt} {d c4 c3 c2 c1 : Addr} {lo o4 o3 o2 o1 : Obj} (ps : List Str) (_F : Fr h₀ L s.heap m) (_N : News h₀ L s.heap ((d, lo) :: (c4, o4) :: (c3, o3) :: (c2, o2) :: (c1, o1) :: []))
    (h1 : wpAny (model prog w) A (exec stmt env) (CutNext (PartsJ h₀ L m d lo c4 c3 c2 c1 o4 o3 o2 ps s)) E s)
    (h2 : ∀ l vs n o h tk, StrsAre vs ps → o.data = .cell (some (.ref l)) → Fr h₀ L h m → News h₀ L h ((l, dObj vs n) :: (d, lo) :: (c4, o4) :: (c3, o3) :: (c2, o2) :: (c1, o) :: []) → AllLt l ((d, lo) :: (c4, o4) :: (c3, o3) :: (c2, o2) :: (c1, o) :: []) →
      wpAny (model prog w) A (execs rest env) Q E { s with heap := h, toks := tk }) : wpAny (model prog w) A (execs (stmt :: rest) env) Q E s := by
  refine cut1 _ h1 ?_
  rintro _ ⟨l, vs, n, o, h, tk, rfl, a, b, c, e, f⟩
  exact h2 l vs n o h tk a b c e f
def msgs : List Str := [Str.ofString "", Str.ofString ":", Str.ofString "\n", Str.ofString ": 1.9", Str.ofString "\n.a:b"]
/-- after «message = ..» -/
def MsgJ (h₀ : Heap) (L : Addr) (m : Str → Option Value) (news : List (Addr × Obj)) (s s' : Shared) : Prop :=
  ∃ msg t h tk, s' = { s with heap := h, toks := tk } ∧ msg ∈ msgs ∧ Fr h₀ L h (fun y => if y = Str.ofString "message" then some (.str msg t) else m y) ∧ News h₀ L h news
theorem MsgJ.intro {h tk msg t all news m'} (hm : msg ∈ msgs) (F : Fr h₀ L h m') (e : m' = fun y => if y = Str.ofString "message" then some (.str msg t) else m y) (N : News h₀ L h all) (sub : ∀ p ∈ news, p ∈ all) : MsgJ h₀ L m news s { s with heap := h, toks := tk } :=
  ⟨msg, t, h, tk, rfl, hm, e ▸ F, fun p hp => N p (sub p hp)⟩
theorem cut_msg {stmt : Stmt} {rest : List Stmt} {p q : Addr × Obj} {r : List (Addr × Obj)} (_F : Fr h₀ L s.heap m) (_N : News h₀ L s.heap (p :: q :: r))
    (h1 : wpAny (model prog w) A (exec stmt env) (CutNext (MsgJ h₀ L m (p :: r) s)) E s)
    (h2 : ∀ msg t h tk, msg ∈ msgs → Fr h₀ L h (fun y => if y = Str.ofString "message" then some (.str msg t) else m y) → News h₀ L h (p :: r) →
      wpAny (model prog w) A (execs rest env) Q E { s with heap := h, toks := tk }) : wpAny (model prog w) A (execs (stmt :: rest) env) Q E s := by
  refine cut1 _ h1 ?_
  rintro _ ⟨msg, t, h, tk, rfl, a, b, c⟩
  exact h2 msg t h tk a b c
/-- after «plains = ..» -/
def PlainsJ (h₀ : Heap) (L : Addr) (m : Str → Option Value) (p : Addr × Obj) (c4 c3 c2 c1 : Addr) (o4 o3 o1 : Obj) (os : List (Option Str)) (s s' : Shared) : Prop :=
  ∃ l vs n o h tk, s' = { s with heap := h, toks := tk } ∧ OptsAre vs os ∧ o.data = .cell (some (.ref l)) ∧ Fr h₀ L h m ∧ News h₀ L h ((l, dObj vs n) :: p :: (c4, o4) :: (c3, o3) :: (c2, o) :: (c1, o1) :: []) ∧ LCg.Off1 l (p :: (c4, o4) :: (c3, o3) :: (c2, o) :: (c1, o1) :: [])
theorem PlainsJ.intro {c4 c3 c2 c1 l : Addr} {p : Addr × Obj} {o4 o3 o1 o : Obj} {os : List (Option Str)} {vs : List Value} {n tk : Nat} {h : Heap} {all : List (Addr × Obj)} (hS : OptsAre vs os) (ho : o.data = .cell (some (.ref l))) (F : Fr h₀ L h m) (N : News h₀ L h all)
    (sub : ∀ q ∈ ((l, dObj vs n) :: p :: (c4, o4) :: (c3, o3) :: (c2, o) :: (c1, o1) :: []), q ∈ all) (lt : LCg.Off1 l (p :: (c4, o4) :: (c3, o3) :: (c2, o) :: (c1, o1) :: [])) :
    PlainsJ h₀ L m p c4 c3 c2 c1 o4 o3 o1 os s { s with heap := h, toks := tk } := ⟨l, vs, n, o, h, tk, rfl, hS, ho, F, fun p hp => N p (sub p hp), lt⟩
theorem cut_plains {stmt : Stmt} {rest : List Stmt} {p : Addr × Obj} {c4 c3 c2 c1 : Addr} {o4 o3 o2 o1 : Obj} (os : List (Option Str)) (_F : Fr h₀ L s.heap m) (_N : News h₀ L s.heap (p :: (c4, o4) :: (c3, o3) :: (c2, o2) :: (c1, o1) :: []))
    (h1 : wpAny (model prog w) A (exec stmt env) (CutNext (PlainsJ h₀ L m p c4 c3 c2 c1 o4 o3 o1 os s)) E s)
    (h2 : ∀ l vs n o h tk, OptsAre vs os → o.data = .cell (some (.ref l)) → Fr h₀ L h m → News h₀ L h ((l, dObj vs n) :: p :: (c4, o4) :: (c3, o3) :: (c2, o) :: (c1, o1) :: []) → LCg.Off1 l (p :: (c4, o4) :: (c3, o3) :: (c2, o) :: (c1, o1) :: []) →
      wpAny (model prog w) A (execs rest env) Q E { s with heap := h, toks := tk }) : wpAny (model prog w) A (execs (stmt :: rest) env) Q E s := by
  refine cut1 _ h1 ?_
  rintro _ ⟨l, vs, n, o, h, tk, rfl, a, b, c, e, f⟩
  exact h2 l vs n o h tk a b c e f
/-- after «sound = ..» -/
def SoundJ (h₀ : Heap) (L : Addr) (m : Str → Option Value) (p q : Addr × Obj) (c4 c3 c2 c1 : Addr) (o3 o2 o1 : Obj) (bs : List Bool) (s s' : Shared) : Prop :=
  ∃ l vs n o h tk, s' = { s with heap := h, toks := tk } ∧ BolsAre vs bs ∧ o.data = .cell (some (.ref l)) ∧ Fr h₀ L h m ∧ News h₀ L h ((l, dObj vs n) :: p :: q :: (c4, o) :: (c3, o3) :: (c2, o2) :: (c1, o1) :: []) ∧ LCg.Off1 l (p :: q :: (c4, o) :: (c3, o3) :: (c2, o2) :: (c1, o1) :: [])
theorem SoundJ.intro {c4 c3 c2 c1 l : Addr} {p q : Addr × Obj} {o3 o2 o1 o : Obj} {bs : List Bool} {vs : List Value} {n tk : Nat} {h : Heap} {all : List (Addr × Obj)} (hS : BolsAre vs bs) (ho : o.data = .cell (some (.ref l))) (F : Fr h₀ L h m) (N : News h₀ L h all)
    (sub : ∀ z ∈ ((l, dObj vs n) :: p :: q :: (c4, o) :: (c3, o3) :: (c2, o2) :: (c1, o1) :: []), z ∈ all) (lt : LCg.Off1 l (p :: q :: (c4, o) :: (c3, o3) :: (c2, o2) :: (c1, o1) :: [])) :
    SoundJ h₀ L m p q c4 c3 c2 c1 o3 o2 o1 bs s { s with heap := h, toks := tk } := ⟨l, vs, n, o, h, tk, rfl, hS, ho, F, fun p hp => N p (sub p hp), lt⟩
theorem cut_sound {stmt : Stmt} {rest : List Stmt} {p q : Addr × Obj} {c4 c3 c2 c1 : Addr} {o4 o3 o2 o1 : Obj} (bs : List Bool) (_F : Fr h₀ L s.heap m) (_N : News h₀ L s.heap (p :: q :: (c4, o4) :: (c3, o3) :: (c2, o2) :: (c1, o1) :: []))
    (h1 : wpAny (model prog w) A (exec stmt env) (CutNext (SoundJ h₀ L m p q c4 c3 c2 c1 o3 o2 o1 bs s)) E s)
    (h2 : ∀ l vs n o h tk, BolsAre vs bs → o.data = .cell (some (.ref l)) → Fr h₀ L h m → News h₀ L h ((l, dObj vs n) :: p :: q :: (c4, o) :: (c3, o3) :: (c2, o2) :: (c1, o1) :: []) → LCg.Off1 l (p :: q :: (c4, o) :: (c3, o3) :: (c2, o2) :: (c1, o1) :: []) →
      wpAny (model prog w) A (execs rest env) Q E { s with heap := h, toks := tk }) : wpAny (model prog w) A (execs (stmt :: rest) env) Q E s := by
  refine cut1 _ h1 ?_
  rintro _ ⟨l, vs, n, o, h, tk, rfl, a, b, c, e, f⟩
  exact h2 l vs n o h tk a b c e f
end
end Mine
namespace Mine
open PySem PySem.W PyProof.Rows PySem.Calls
/-- «sound»: what the law says of the place k -/
def soundAt (os : List (Option Str)) (k : Nat) : Bool := !decide (none ∈ (os.drop (k - 3)).take (k + 1 - (k - 3)))
def soundL (os : List (Option Str)) : List Bool := (List.range os.length).map (soundAt os)
theorem optIs_match {x : Str} {t : Tok} : OptIs (plainF x) (match plainF x with | some y => .str y t | none => .none) := by
  cases plainF x with
  | none => rfl
  | some y => exact ⟨t, rfl⟩
theorem strs_src {vs : List Value} {ss : List Str} (h : StrsAre vs ss) {i : Nat} {v : Value} (e : vs.toArray[i]? = some v) : ∃ x t, v = .str x t ∧ ss[i]? = some x ∧ ss.getD i Str.empty = x := by
  rw [List.getElem?_toArray] at e
  obtain ⟨x, t, ev, ex⟩ := strs_item h e
  exact ⟨x, t, ev, ex, by rw [List.getD_eq_getElem?_getD, ex]; rfl⟩
theorem range_getD {α β : Type} (f : α → β) (d : α) (l : List α) : (List.range l.length).map (fun i => f (l.getD i d)) = l.map f := by
  apply List.ext_getElem
  · simp
  · intro i h1 h2
    simp only [List.length_map, List.length_range] at h1
    simp [List.getD_eq_getElem?_getD, List.getElem?_eq_getElem h1]
theorem row_le {ds : List Int} {f : Int → Int} (h : 0 < ds.length ∧ ds.length ≤ 14) : ∀ p ∈ rowF (ds.map f), p.length ≤ 42 := by
  intro p hp
  have := rowF_parts _ p hp
  rw [List.length_map] at this
  omega
theorem row_n {ds : List Int} {f : Int → Int} (h : 0 < ds.length ∧ ds.length ≤ 14) : (rowF (ds.map f)).length ≤ 14 := by
  have := rowF_len (ds.map f)
  rw [List.length_map] at this
  omega
theorem strs_z {vs : List Value} {ss : List Str} (h : StrsAre vs ss) {n : Nat} (hn : ss.length ≤ n) (hz : n ≤ 1000) : vs.toArray.size ≤ sizeLine := by
  rw [List.size_toArray, h.length, sizeLine_eq]; omega
end Mine
end
section
open PySem PySem.W PyProof.Rows PySem.Calls
set_option Elab.async false
namespace Mine
def isNoneV : Value → Bool | .none => true | _ => false
def isTrueV : Value → Bool | .bool b => b | _ => false
theorem opts_mem : ∀ {vs : List Value} {os : List (Option Str)}, OptsAre vs os → ∀ y ∈ vs, y = .none ∨ ∃ x t, y = .str x t
  | _, _, .nil, y, hy => nomatch hy
  | _, _, .cons (a := none) h r, y, hy => by
    rcases List.mem_cons.mp hy with rfl | hy
    · exact .inl h
    · exact opts_mem r y hy
  | _, _, .cons (a := some x) h r, y, hy => by
    rcases List.mem_cons.mp hy with rfl | hy
    · obtain ⟨t, e⟩ := h; exact .inr ⟨x, t, e⟩
    · exact opts_mem r y hy
theorem opts_any : ∀ {vs : List Value} {os : List (Option Str)}, OptsAre vs os → vs.any isNoneV = decide (none ∈ os)
  | _, _, .nil => by simp
  | _, _, .cons (a := none) h r => by
    have h : _ = Value.none := h
    subst h
    simp [isNoneV]
  | _, _, .cons (a := some x) h r => by
    obtain ⟨t, rfl⟩ := h
    rw [List.any_cons, opts_any r]
    simp [isNoneV]
theorem bols_mem : ∀ {vs : List Value} {os : List Bool}, BolsAre vs os → ∀ y ∈ vs, ∃ b, y = .bool b
  | _, _, .nil, y, hy => nomatch hy
  | _, _, .cons (a := b) h r, y, hy => by
    rcases List.mem_cons.mp hy with rfl | hy
    · exact ⟨b, h⟩
    · exact bols_mem r y hy
theorem bols_any : ∀ {vs : List Value} {os : List Bool}, BolsAre vs os → vs.any isTrueV = decide (true ∈ os)
  | _, _, .nil => by simp
  | _, _, .cons (a := b) h r => by
    have h : _ = Value.bool b := h
    subst h
    rw [List.any_cons, bols_any r]
    cases b <;> simp [isTrueV]
section
variable {prog : Program} {w : World} {A : Around} {E : Value → Shared → Prop} {s : Shared} {h₀ : Heap} {L D l : Addr} {m : Str → Option Value} {news : List (Addr × Obj)}
theorem opts_eqAt {vs : List Value} {os : List (Option Str)} (h : OptsAre vs os) : ∀ y, y ∈ vs.toArray → SeqAt.EqAt A.in1 s y .none (isNoneV y) := by
  intro y hy
  rcases opts_mem h y (by simpa using hy) with rfl | ⟨x, t, rfl⟩
  · exact SeqAt.EqAt.same _
  · exact SeqAt.EqAt.str_none x t
theorem bols_eqAt {vs : List Value} {os : List Bool} (h : BolsAre vs os) : ∀ y, y ∈ vs.toArray → SeqAt.EqAt A.in1 s y (.bool true) (isTrueV y) := by
  intro y hy
  obtain ⟨b, rfl⟩ := bols_mem h y (by simpa using hy)
  have := SeqAt.EqAt.bool_bool (A := A.in1) (s := s) b true
  have e : isTrueV (.bool b) = (b == true) := by cases b <;> rfl
  rw [e]; exact this
theorem notIn_none {vs : List Value} {os : List (Option Str)} {n : Nat} {Q : Value → Shared → Prop} (N : News h₀ L s.heap news) (hm : (l, listOf vs.toArray n) ∈ news) (hO : OptsAre vs os) (h : Q (.bool (!decide (none ∈ os))) s) :
    wpAny (model prog w) A (compareOp .NotIn .none (.ref l)) Q E s := by
  refine SeqAt.notIn_listAt isNoneV (news_isList N hm) (opts_eqAt hO) ?_
  have e : vs.toArray.any isNoneV = decide (none ∈ os) := by rw [List.any_toArray]; exact opts_any hO
  rw [e]; exact h
theorem in_none {vs : List Value} {os : List (Option Str)} {n : Nat} {Q : Value → Shared → Prop} (N : News h₀ L s.heap news) (hm : (l, listOf vs.toArray n) ∈ news) (hO : OptsAre vs os) (h : Q (.bool (decide (none ∈ os))) s) :
    wpAny (model prog w) A (compareOp .In .none (.ref l)) Q E s := by
  refine SeqAt.in_listAt isNoneV (news_isList N hm) (opts_eqAt hO) ?_
  have e : vs.toArray.any isNoneV = decide (none ∈ os) := by rw [List.any_toArray]; exact opts_any hO
  rw [e]; exact h
theorem in_true {vs : List Value} {os : List Bool} {n : Nat} {Q : Value → Shared → Prop} (N : News h₀ L s.heap news) (hm : (l, listOf vs.toArray n) ∈ news) (hO : BolsAre vs os) (h : Q (.bool (decide (true ∈ os))) s) :
    wpAny (model prog w) A (compareOp .In (.bool true) (.ref l)) Q E s := by
  refine SeqAt.in_listAt isTrueV (news_isList N hm) (bols_eqAt hO) ?_
  have e : vs.toArray.any isTrueV = decide (true ∈ os) := by rw [List.any_toArray]; exact bols_any hO
  rw [e]; exact h
theorem sliceI_K {value slice : PySem.Expr} {vs : List Value} {n : Nat} {xa xb : Int} {ta tb : Tok} {a b : Nat} {Q : Value → Shared → Prop} (F : Fr h₀ L s.heap m) (N : News h₀ L s.heap news) (hm : (l, listOf vs.toArray n) ∈ news) (ha : xa = (a : Int)) (hb : xb = (b : Int))
    (h : ∀ D h', Fr h₀ L h' m → News h₀ L h' ((D, listOf ((vs.drop a).take (b - a)).toArray 0) :: news) → AllLt D news → Q (.ref D) { s with heap := h' })
    (hz : vs.length ≤ sizeLine)
    (hs : subscripted slice false (.ref l) (.ref s.heap.objs.size) = operate [.ref s.heap.objs.size, .ref l] (getItem (.ref l) (.ref s.heap.objs.size))) (ht : ∀ r, letTemporaryGo value (.ref l) r = pure ()) :
    wpAny (model prog w) A (subscriptTail value slice (.ref l) (.ref s.heap.objs.size)) Q E { s with heap := s.heap.push { cls := .type "slice", data := .fields #[.int xa ta, .int xb tb, .none] } } := by
  subst ha hb
  exact slice_K F N hm (IsPart.int _ _) (IsPart.int _ _) (fun D h' F' N' l' => h D h' F' N' (allLt_of l')) hs ht hz
end
theorem opts_z {vs : List Value} {os : List (Option Str)} (h : OptsAre vs os) {n : Nat} (hn : os.length ≤ n) (hz : n ≤ 1000) : vs.length ≤ sizeLine := by
  rw [h.length, sizeLine_eq]; omega
theorem bols_z {vs : List Value} {os : List Bool} (h : BolsAre vs os) {n : Nat} (hn : os.length ≤ n) (hz : n ≤ 1000) : vs.length ≤ sizeLine := by
  rw [h.length, sizeLine_eq]; omega
end Mine
end
section
open PySem PySem.W PyProof.Rows PySem.Calls
set_option Elab.async false
namespace Mine
section
variable {prog : Program} {w : World} {A : Around} {E : Value → Shared → Prop} {s : Shared} {env : Env} {Q : Flow → Shared → Prop} {h₀ : Heap} {L : Addr} {m : Str → Option Value}
theorem off1_of {D : Addr} : ∀ {l : List (Addr × Obj)}, (∀ p ∈ l, p.1 ≠ D) → LCg.Off1 D l
  | [], _ => trivial
  | _ :: _, h => ⟨h _ (.head _), off1_of fun p hp => h p (.tail _ hp)⟩
theorem for_cell1 {x : Str} {px : Pos} {body : List Stmt} {r : Addr} {n : Nat} {t u v : Tok} {b : Int} {news : List (Addr × Obj)} (J : Nat → (Str → Option Value) → List (Addr × Obj) → Prop)
    (hh : A.handled = none) (hr : IsRange s.heap r 0 b 1 t u v) (hb : b = ((n : Nat) : Int)) (hn : n ≤ 1000) (F : Fr h₀ env.locals s.heap m) (N : News h₀ env.locals s.heap news) (hJa : ∀ i m₁ news₁, J i m₁ news₁ → news₁.map (·.1) = news.map (·.1))
    (h0 : J 0 m news)
    (turn : ∀ i t m₁ news₁ s₁ I oI, i < n → J i m₁ news₁ → Fr h₀ env.locals s₁.heap m₁ → News h₀ env.locals s₁.heap ((I, oI) :: news₁) → LCg.Off1 I news₁ →
      wpAny (model prog w) A (assign (.Name x px) env (.int (i : Int) t)) (fun _ s₃ => wpAny (model prog w) A (execs body env) (LEnd h₀ env.locals (J (i + 1)) [(I, oI)] s₁) E s₃) E s₁)
    (done : ∀ m₁ news₁ h tk, J n m₁ news₁ → Fr h₀ env.locals h m₁ → News h₀ env.locals h news₁ → Q .next { s with heap := h, toks := tk }) :
    wpAny (model prog w) A (pyIter (.ref r)) (fun it s₂ => LoopAtT prog w A h₀ env (.Name x px) body Q E it s₂) E s := by
  subst hb
  have hsz : Builtin.Range.rangeSize 0 (n : Int) 1 = (n : Int) := by
    have := rangeSize_nat 0 n
    simpa using this
  have hsm : Builtin.Range.small 0 (n : Int) 1 = true := small_one (by omega) (by omega) (by omega) (by omega)
  refine wpAny_pyIter_range hr hsm ?_
  have W := LCg.range_walks (prog := prog) (w := w) (I := s.heap.objs.size) hh 0 n
  have hI₀ : h₀.get? s.heap.objs.size = none := next_is_new F
  have hni : ∀ p ∈ news, p.1 ≠ s.heap.objs.size := fun p hp => Nat.ne_of_lt (Heap.lt_size (N p hp).1)
  have hJn : ∀ i m₁ news₁, J i m₁ news₁ → ∀ p ∈ news₁, p.1 ≠ s.heap.objs.size := by
    intro i m₁ news₁ hJ p hp hI
    have hm : p.1 ∈ news.map (·.1) := by rw [← hJa i m₁ news₁ hJ]; exact List.mem_map_of_mem hp
    obtain ⟨q, hq, e⟩ := List.mem_map.mp hm
    exact hni q hq (e.trans hI)
  refine ⟨s.heap.objs.size, _, _, n, _, _, m, news, J, rfl, W, ?_, ?_, ?_, ?_, F.push _, (fun p hp => ⟨Heap.get?_push_of_some _ (N p hp).1, (N p hp).2⟩), ?_, h0, ?_, ?_⟩
  · intro hm
    exact absurd F.ns.lt ((List.mem_singleton.mp hm) ▸ Nat.lt_irrefl _)
  · intro b hb
    rw [List.mem_singleton.mp hb]
    exact hI₀
  · intro p hp hI
    exact hni p hp (List.mem_singleton.mp hI)
  · show IsRangeIter _ _ _ _ _
    rw [hsz]
    simpa using Heap.get?_push_size _ rfl
  · intro i s' v Q' st hQ
    exact wpAny_of_eq rfl hQ
  · rintro i v m₁ news₁ s₁ own hi ⟨t, rfl⟩ hJ hoff hsub hown hall st F₁ N₁
    have e : (0 + (i : Int)) = (i : Int) := by omega
    rw [e]
    obtain ⟨oI, hIo⟩ : ∃ oI, s₁.heap.get? s.heap.objs.size = some oI := ⟨_, st⟩
    have hIm := hall s.heap.objs.size (List.mem_singleton.mpr rfl) hI₀ _ hIo
    have hIN := N₁ _ (List.mem_append_left _ hIm)
    refine wpAny_mono (turn i t m₁ news₁ s₁ s.heap.objs.size oI hi hJ F₁ (fun p hp => ?_) (off1_of (hJn _ _ _ hJ))) (fun _ s₃ h₃ => wpAny_mono h₃ (fun f s₄ h₄ => ?_) fun _ _ e => e) fun _ _ e => e
    · rcases List.mem_cons.mp hp with rfl | hp
      · exact hIN
      · exact N₁ p (List.mem_append_right _ hp)
    · obtain ⟨hf, h', tk, m₂, news₂, es, F₂, N₂, hJ₂⟩ := h₄
      refine ⟨hf, h', tk, m₂, news₂, es, F₂, fun p hp => ?_, fun p hp hI => hJn _ _ _ hJ₂ p hp (List.mem_singleton.mp hI), hJ₂⟩
      rcases List.mem_append.mp hp with hp | hp
      · have h1 := List.mem_singleton.mp (hsub p hp)
        have h2 := hown p hp
        rw [h1, hIo] at h2
        have h3 : p = (s.heap.objs.size, oI) := Prod.ext h1 (Option.some.inj h2).symm
        rw [h3]
        exact N₂ _ (.head _)
      · exact N₂ p (List.mem_append_right _ hp)
  · intro h' tk m' news' F' N' _ hJ
    exact done m' news' h' tk hJ F' N'
def LawJ (p q r r4 : Addr × Obj) (c3 : Addr) (r2 r1 : Addr × Obj) (Told : Nat → Str → Prop) (msg : Str) (i : Nat) (m : Str → Option Value) (nx : List (Addr × Obj)) : Prop :=
  ∃ ok vk told tt tm, nx = p :: q :: r :: r4 :: (c3, ok) :: r2 :: r1 :: [] ∧ ok.data = .cell vk ∧ m (Str.ofString "told") = some (.str told tt) ∧ m (Str.ofString "message") = some (.str msg tm) ∧ Told i told
theorem law_end {p q r r4 : Addr × Obj} {c3 : Addr} {r2 r1 : Addr × Obj} {Told : Nat → Str → Prop} {msg : Str} {i tk : Nat} {m' : Str → Option Value} {all : List (Addr × Obj)} {I : Addr} {oI : Obj} {s₁ : Shared} {h' : Heap} {ok : Obj} {vk : Option Value} {told : Str} {tt tm : Tok}
    (F : Fr h₀ L h' m') (N : News h₀ L h' all) (sub : ∀ z ∈ (I, oI) :: p :: q :: r :: r4 :: (c3, ok) :: r2 :: r1 :: [], z ∈ all) (hok : ok.data = .cell vk) (h1 : m' (Str.ofString "told") = some (.str told tt)) (h2 : m' (Str.ofString "message") = some (.str msg tm)) (hT : Told i told) :
    LEnd h₀ L (LawJ p q r r4 c3 r2 r1 Told msg i) [(I, oI)] s₁ .next { s₁ with heap := h', toks := tk } :=
  ⟨rfl, h', tk, m', _, rfl, F, fun z hz => N z (sub z hz), ok, vk, told, tt, tm, rfl, hok, h1, h2, hT⟩
theorem for_law {x : Str} {px : Pos} {body : List Stmt} {rg : Addr} {n : Nat} {t u v : Tok} {b : Int} {p q r r4 r2 r1 : Addr × Obj} {c3 : Addr} {o3 : Obj} {v3 : Option Value} {told0 msg : Str} {t0 tm0 : Tok} (Told : Nat → Str → Prop)
    (hh : A.handled = none) (hr : IsRange s.heap rg 0 b 1 t u v) (hb : b = ((n : Nat) : Int)) (hn : n ≤ 1000) (F : Fr h₀ env.locals s.heap m) (N : News h₀ env.locals s.heap (p :: q :: r :: r4 :: (c3, o3) :: r2 :: r1 :: [])) (ho : o3.data = .cell v3)
    (h1 : m (Str.ofString "told") = some (.str told0 t0)) (h2 : m (Str.ofString "message") = some (.str msg tm0)) (h0 : Told 0 told0)
    (turn : ∀ i t ok vk told tt tm (m₁ : Str → Option Value) s₁ I oI, i < n → Told i told → ok.data = .cell vk → Fr h₀ env.locals s₁.heap (kstB m₁ [(Str.ofString "told", .str told tt), (Str.ofString "message", .str msg tm)]) →
      News h₀ env.locals s₁.heap ((I, oI) :: p :: q :: r :: r4 :: (c3, ok) :: r2 :: r1 :: []) → LCg.Off1 I (p :: q :: r :: r4 :: (c3, ok) :: r2 :: r1 :: []) →
      wpAny (model prog w) A (assign (.Name x px) env (.int (i : Int) t)) (fun _ s₃ => wpAny (model prog w) A (execs body env) (LEnd h₀ env.locals (LawJ p q r r4 c3 r2 r1 Told msg (i + 1)) [(I, oI)] s₁) E s₃) E s₁)
    (done : ∀ m₁ h tk, Fr h₀ env.locals h m₁ → Q .next { s with heap := h, toks := tk }) :
    wpAny (model prog w) A (pyIter (.ref rg)) (fun it s₂ => LoopAtT prog w A h₀ env (.Name x px) body Q E it s₂) E s := by
  refine for_cell1 (LawJ p q r r4 c3 r2 r1 Told msg) hh hr hb hn F N ?_ ⟨o3, v3, told0, t0, tm0, rfl, ho, h1, h2, h0⟩ ?_ ?_
  · rintro i m₁ news₁ ⟨ok, vk, told, tt, tm, rfl, _⟩
    rfl
  · rintro i t m₁ news₁ s₁ I oI hi ⟨ok, vk, told, tt, tm, rfl, a1, a2, a3, a4⟩ F₁ N₁ off
    refine turn i t ok vk told tt tm m₁ s₁ I oI hi a4 a1 ?_ N₁ off
    have e : kstB m₁ [(Str.ofString "told", Value.str told tt), (Str.ofString "message", Value.str msg tm)] = m₁ := by
      funext z
      refine kstB_eq ?_ fun _ => rfl
      simp only [List.forall_mem_cons, List.not_mem_nil, false_implies, implies_true, and_true]
      exact ⟨a2, a3⟩
    rw [e]; exact F₁
  · rintro m₁ news₁ h tk _ F₁ _
    exact done m₁ h tk F₁
/-- a text kept under a name -/
def StrJ (h₀ : Heap) (L : Addr) (m : Str → Option Value) (news : List (Addr × Obj)) (y : Str) (P : Str → Prop) (s s' : Shared) : Prop :=
  ∃ x t h tk, s' = { s with heap := h, toks := tk } ∧ P x ∧ Fr h₀ L h (fun z => if z = y then some (.str x t) else m z) ∧ News h₀ L h news
theorem StrJ.intro {h tk x t y all news m'} {P : Str → Prop} (hm : P x) (F : Fr h₀ L h m') (e : m' = fun z => if z = y then some (.str x t) else m z) (N : News h₀ L h all) (sub : ∀ p ∈ news, p ∈ all) : StrJ h₀ L m news y P s { s with heap := h, toks := tk } :=
  ⟨x, t, h, tk, rfl, hm, e ▸ F, fun p hp => N p (sub p hp)⟩
theorem cut_str {stmt : Stmt} {rest : List Stmt} {news : List (Addr × Obj)} (y : Str) (P : Str → Prop) (_F : Fr h₀ L s.heap m) (_N : News h₀ L s.heap news)
    (h1 : wpAny (model prog w) A (exec stmt env) (CutNext (StrJ h₀ L m news y P s)) E s)
    (h2 : ∀ x t h tk, P x → Fr h₀ L h (fun z => if z = y then some (.str x t) else m z) → News h₀ L h news → wpAny (model prog w) A (execs rest env) Q E { s with heap := h, toks := tk }) : wpAny (model prog w) A (execs (stmt :: rest) env) Q E s := by
  refine cut1 _ h1 ?_
  rintro _ ⟨x, t, h, tk, rfl, a, b, c⟩
  exact h2 x t h tk a b c
/-- a list kept under a name -/
def LstJ (h₀ : Heap) (L : Addr) (m : Str → Option Value) (news : List (Addr × Obj)) (y : Str) (P : List Value → Prop) (s s' : Shared) : Prop :=
  ∃ l vs n h tk, s' = { s with heap := h, toks := tk } ∧ P vs ∧ Fr h₀ L h (fun z => if z = y then some (.ref l) else m z) ∧ News h₀ L h ((l, dObj vs n) :: news)
theorem LstJ.intro {h tk l vs n y all news m'} {P : List Value → Prop} (hm : P vs) (F : Fr h₀ L h m') (e : m' = fun z => if z = y then some (.ref l) else m z) (N : News h₀ L h all) (sub : ∀ p ∈ ((l, dObj vs n) :: news), p ∈ all) : LstJ h₀ L m news y P s { s with heap := h, toks := tk } :=
  ⟨l, vs, n, h, tk, rfl, hm, e ▸ F, fun p hp => N p (sub p hp)⟩
theorem cut_lst {stmt : Stmt} {rest : List Stmt} {news : List (Addr × Obj)} (y : Str) (P : List Value → Prop) (_F : Fr h₀ L s.heap m) (_N : News h₀ L s.heap news)
    (h1 : wpAny (model prog w) A (exec stmt env) (CutNext (LstJ h₀ L m news y P s)) E s)
    (h2 : ∀ l vs n h tk, P vs → Fr h₀ L h (fun z => if z = y then some (.ref l) else m z) → News h₀ L h ((l, dObj vs n) :: news) → wpAny (model prog w) A (execs rest env) Q E { s with heap := h, toks := tk }) : wpAny (model prog w) A (execs (stmt :: rest) env) Q E s := by
  refine cut1 _ h1 ?_
  rintro _ ⟨l, vs, n, h, tk, rfl, a, b, c⟩
  exact h2 l vs n h tk a b c
/-- nothing kept -/
def NoJ (h₀ : Heap) (L : Addr) (m : Str → Option Value) (news : List (Addr × Obj)) (s s' : Shared) : Prop :=
  ∃ h tk, s' = { s with heap := h, toks := tk } ∧ Fr h₀ L h m ∧ News h₀ L h news
theorem NoJ.intro {h tk all news} (F : Fr h₀ L h m) (N : News h₀ L h all) (sub : ∀ p ∈ news, p ∈ all) : NoJ h₀ L m news s { s with heap := h, toks := tk } := ⟨h, tk, rfl, F, fun p hp => N p (sub p hp)⟩
theorem cut_no {stmt : Stmt} {rest : List Stmt} {news : List (Addr × Obj)} (_F : Fr h₀ L s.heap m) (_N : News h₀ L s.heap news)
    (h1 : wpAny (model prog w) A (exec stmt env) (CutNext (NoJ h₀ L m news s)) E s)
    (h2 : ∀ h tk, Fr h₀ L h m → News h₀ L h news → wpAny (model prog w) A (execs rest env) Q E { s with heap := h, toks := tk }) : wpAny (model prog w) A (execs (stmt :: rest) env) Q E s := by
  refine cut1 _ h1 ?_
  rintro _ ⟨h, tk, rfl, b, c⟩
  exact h2 h tk b c
end
end Mine
end
section
open PySem PySem.W PyProof.Rows PySem.Calls
set_option Elab.async false
namespace Mine
def toldF (ps : List Str) : Nat → Str
  | 0 => Str.ofString ""
  | i + 1 => normF (if 0 < i then ps.getD i Str.empty ++ dot ++ toldF ps i else ps.getD i Str.empty) (Str.ofString "")
def duePick (ps : List Str) (k j : Nat) : Str := if true ∈ ((soundL (ps.map plainF)).drop j).take (k + 1 - j) then ((ps.map plainF).getD j none).getD Str.empty else ps.getD j Str.empty
def dueG (ps : List Str) (k : Nat) (l : List Str) (j : Int) : List Str := if 0 ≤ j then l ++ [duePick ps k j.toNat] else l
def dueL (ps : List Str) (k : Nat) : List Str := [(k : Int), (k : Int) - 1, (k : Int) - 2].foldl (dueG ps k) []
def buildF (ps : List Str) (k : Nat) : Str := if k + 1 < ps.length then ps.getD (k + 1) Str.empty else Str.ofString ""
def handedL (ps : List Str) (k : Nat) : List Str := if buildF ps k != Str.ofString "" then dueL ps k ++ [buildF ps k] else dueL ps k
def bareL (ps : List Str) (k : Nat) : List (Option Str) := (handedL ps k).map plainF
def goodC (c : Nat) : Prop := c = 9 ∨ c = 32 ∨ c = 43 ∨ c = 45 ∨ (48 ≤ c ∧ c ≤ 57) ∨ c = 95 ∨ c = 120
def GoodT (x : Str) : Prop := ∀ c ∈ x.cps.toList, goodC c
structure Parts (ps : List Str) : Prop where
  good : ∀ p ∈ ps, GoodT p
  len : ∀ p ∈ ps, p.length ≤ 42
  n : ps.length ≤ 14
end Mine
end
section
open PySem PySem.W PyProof.Rows PySem.Calls PySem.NumText
set_option Elab.async false
namespace Mine
abbrev cl (x : Str) : List Nat := x.cps.toList
theorem cl_inj {x y : Str} (h : cl x = cl y) : x = y := PySem.Str.ext' (Array.toList_inj.mp h)
theorem cl_append (x y : Str) : cl (x ++ y) = cl x ++ cl y := by
  show (x ++ y).cps.toList = _
  rw [PySem.Str.cps_append, Array.toList_append]
theorem cl_len (x : Str) : (cl x).length = x.length := Array.length_toList
/-- lists laid together with a sign between -/
def jl (c : Nat) : List (List Nat) → List Nat
  | [] => []
  | [g] => g
  | g :: g2 :: r => g ++ c :: jl c (g2 :: r)
theorem join_list (c : Nat) : ∀ gs : List Str, cl (Str.join ⟨#[c]⟩ gs) = jl c (gs.map cl)
  | [] => rfl
  | [g] => rfl
  | g :: g2 :: r => by
    show cl (g ++ ⟨#[c]⟩ ++ Str.join ⟨#[c]⟩ (g2 :: r)) = _
    rw [cl_append, cl_append, join_list c (g2 :: r)]
    show cl g ++ [c] ++ _ = cl g ++ c :: jl c ((g2 :: r).map cl)
    simp
theorem append_free {c : Nat} {ra rb : List Nat} (hra : ra = [] ∨ ∃ t, ra = c :: t) (hrb : rb = [] ∨ ∃ t, rb = c :: t) : ∀ {a b : List Nat}, c ∉ a → c ∉ b → a ++ ra = b ++ rb → a = b ∧ ra = rb
  | [], [], _, _, h => ⟨rfl, h⟩
  | [], d :: b, _, hb, h => by
    exfalso
    rcases hra with rfl | ⟨t, rfl⟩
    · simp at h
    · simp only [List.nil_append, List.cons_append, List.cons.injEq] at h
      exact hb (h.1 ▸ .head _)
  | d :: a, [], ha, _, h => by
    exfalso
    rcases hrb with rfl | ⟨t, rfl⟩
    · simp at h
    · simp only [List.nil_append, List.cons_append, List.cons.injEq] at h
      exact ha (h.1 ▸ .head _)
  | d :: a, e :: b, ha, hb, h => by
    simp only [List.cons_append, List.cons.injEq] at h
    obtain ⟨h1, h2⟩ := append_free hra hrb (fun q => ha (.tail _ q)) (fun q => hb (.tail _ q)) h.2
    exact ⟨by rw [h.1, h1], h2⟩
theorem jl_cons (c : Nat) (g : List Nat) (r : List (List Nat)) : ∃ t, jl c (g :: r) = g ++ t ∧ ((r = [] ∧ t = []) ∨ (r ≠ [] ∧ t = c :: jl c r)) := by
  cases r with
  | nil => exact ⟨[], by simp [jl], .inl ⟨rfl, rfl⟩⟩
  | cons g2 r => exact ⟨_, rfl, .inr ⟨by simp, rfl⟩⟩
theorem jl_inj (c : Nat) : ∀ {as bs : List (List Nat)}, as ≠ [] → bs ≠ [] → (∀ g ∈ as, c ∉ g) → (∀ g ∈ bs, c ∉ g) → jl c as = jl c bs → as = bs
  | [], _, h, _, _, _, _ => absurd rfl h
  | _ :: _, [], _, h, _, _, _ => absurd rfl h
  | a :: as, b :: bs, _, _, ha, hb, h => by
    obtain ⟨ta, ea, ka⟩ := jl_cons c a as
    obtain ⟨tb, eb, kb⟩ := jl_cons c b bs
    rw [ea, eb] at h
    have h1 : ta = [] ∨ ∃ t, ta = c :: t := by
      rcases ka with ⟨_, e⟩ | ⟨_, e⟩
      · exact .inl e
      · exact .inr ⟨_, e⟩
    have h2 : tb = [] ∨ ∃ t, tb = c :: t := by
      rcases kb with ⟨_, e⟩ | ⟨_, e⟩
      · exact .inl e
      · exact .inr ⟨_, e⟩
    obtain ⟨e1, e2⟩ := append_free h1 h2 (ha a (.head _)) (hb b (.head _)) h
    rcases ka with ⟨ra, ea2⟩ | ⟨ra, ea2⟩ <;> rcases kb with ⟨rb, eb2⟩ | ⟨rb, eb2⟩
    · rw [e1, ra, rb]
    · rw [ea2, eb2] at e2; cases e2
    · rw [ea2, eb2] at e2; cases e2
    · rw [ea2, eb2, List.cons.injEq] at e2
      rw [e1, jl_inj c ra rb (fun g hg => ha g (.tail _ hg)) (fun g hg => hb g (.tail _ hg)) e2.2]
theorem split_ne (x y : Str) : Txt.split x y ≠ [] := by
  unfold Txt.split
  split
  · simp
  · split
    · simp
    · rw [StrLaws.partsBetween_eq]
      obtain ⟨p, r, e⟩ := StrLaws.partsFrom_ne x y.length 0 (Builtin.Str.occurrences x y 0 x.length (x.length + 1))
      rw [e]; simp
/-- what is laid together and cut again -/
theorem split_join {c : Nat} {gs : List Str} (hne : gs ≠ []) (hf : ∀ g ∈ gs, c ∉ cl g) : Txt.split (Str.join ⟨#[c]⟩ gs) ⟨#[c]⟩ = gs := by
  have h1 := StrLaws.join_split (Str.join ⟨#[c]⟩ gs) ⟨#[c]⟩
  have h2 := StrLaws.split_free (Str.join ⟨#[c]⟩ gs) c
  have h3 := split_ne (Str.join ⟨#[c]⟩ gs) ⟨#[c]⟩
  generalize Txt.split (Str.join ⟨#[c]⟩ gs) ⟨#[c]⟩ = bs at h1 h2 h3
  have h4 := congrArg cl h1
  rw [join_list, join_list] at h4
  have h5 := jl_inj c (by simpa using h3) (by simpa using hne) (by simpa using h2) (by simpa using hf) h4
  exact (List.map_inj_right (fun a b => cl_inj)).mp h5
end Mine
end
section
open PySem PySem.W PyProof.Rows PySem.Calls PySem.NumText
set_option Elab.async false
namespace Mine
def isD (c : Nat) : Bool := 48 ≤ c && c ≤ 57
/-- figures with at most one _ between two: the figures -/
def dig : Bool → List Nat → Option (List Nat)
  | b, [] => if b = true then some [] else none
  | b, c :: r => if c = 95 then (if b = true then dig false r else none) else if isD c = true then (dig true r).map (c :: ·) else none
def allD (g : List Nat) : Bool := g.all isD
theorem dig_free : ∀ {g : List Nat} (b : Bool), 95 ∉ g → dig b g = if allD g = true ∧ (b = true ∨ g ≠ []) then some g else none
  | [], b, _ => by cases b <;> simp [dig, allD]
  | d :: g, b, h => by
    have hd : d ≠ 95 := fun e => h (e ▸ .head _)
    have ih := dig_free (g := g) true (fun q => h (.tail _ q))
    simp only [dig, if_neg hd]
    cases hD : isD d with
    | false => simp [allD, hD]
    | true =>
      rw [if_pos rfl, ih]
      cases hA : allD g with
      | false =>
        have : allD (d :: g) = false := by simp only [allD, List.all_cons, hD, Bool.true_and]; exact hA
        simp [this]
      | true =>
        have : allD (d :: g) = true := by simp only [allD, List.all_cons, hD, Bool.true_and]; exact hA
        simp [this]
theorem dig_cut : ∀ {g : List Nat} (b : Bool) (rest : List Nat), 95 ∉ g → dig b (g ++ 95 :: rest) = if allD g = true ∧ (b = true ∨ g ≠ []) then (dig false rest).map (g ++ ·) else none
  | [], b, rest, _ => by
    cases b with
    | true => simp [dig, allD]
    | false => simp [dig, allD]
  | d :: g, b, rest, h => by
    have hd : d ≠ 95 := fun e => h (e ▸ .head _)
    have ih := dig_cut (g := g) true rest (fun q => h (.tail _ q))
    simp only [List.cons_append, dig, if_neg hd]
    cases hD : isD d with
    | false => simp [allD, hD]
    | true =>
      rw [if_pos rfl, ih]
      cases hA : allD g with
      | false =>
        have : allD (d :: g) = false := by simp only [allD, List.all_cons, hD, Bool.true_and]; exact hA
        simp [this]
      | true =>
        have : allD (d :: g) = true := by simp only [allD, List.all_cons, hD, Bool.true_and]; exact hA
        simp only [this, true_and, true_or, if_true, ne_eq, reduceCtorEq, not_false_eq_true, or_true]
        cases dig false rest <;> simp
/-- groups laid together with _ -/
theorem dig_jl : ∀ (gs : List (List Nat)), gs ≠ [] → (∀ g ∈ gs, 95 ∉ g) → dig false (jl 95 gs) = if (∀ g ∈ gs, g ≠ [] ∧ allD g = true) then some gs.flatten else none
  | [], h, _ => absurd rfl h
  | [g], _, hf => by
    show dig false g = _
    rw [dig_free false (hf g (.head _))]
    by_cases h : allD g = true ∧ g ≠ []
    · rw [if_pos ⟨h.1, .inr h.2⟩, if_pos (by intro q hq; rw [List.mem_singleton.mp hq]; exact ⟨h.2, h.1⟩)]
      simp
    · rw [if_neg (fun q => h ⟨q.1, q.2.elim (fun e => nomatch e) _root_.id⟩), if_neg (fun q => h ⟨(q g (.head _)).2, (q g (.head _)).1⟩)]
  | g :: g2 :: r, _, hf => by
    have ih := dig_jl (g2 :: r) (by simp) (fun q hq => hf q (.tail _ hq))
    show dig false (g ++ 95 :: jl 95 (g2 :: r)) = _
    rw [dig_cut false _ (hf g (.head _)), ih]
    by_cases h : allD g = true ∧ g ≠ []
    · rw [if_pos ⟨h.1, .inr h.2⟩]
      by_cases h2 : ∀ q ∈ g2 :: r, q ≠ [] ∧ allD q = true
      · rw [if_pos h2, if_pos]
        · simp
        · intro q hq
          rcases List.mem_cons.mp hq with rfl | hq
          · exact ⟨h.2, h.1⟩
          · exact h2 q hq
      · rw [if_neg h2, if_neg (fun q => h2 fun z hz => q z (.tail _ hz))]; rfl
    · rw [if_neg (fun q => h ⟨q.1, q.2.elim (fun e => nomatch e) _root_.id⟩), if_neg (fun q => h ⟨(q g (.head _)).2, (q g (.head _)).1⟩)]
/-- the model's reader -/
theorem step_is {p : Array Nat} {b : Bool} {c : Nat} (hc : goodC c) : step 10 (p, b) c = if c = 95 then (if b = true then some (p, false) else none) else if isD c = true then some (p.push (c - 48), true) else none := by
  rcases hc with rfl | rfl | rfl | rfl | h | rfl | rfl
  · rfl
  · rfl
  · rfl
  · rfl
  · have h1 : isD c = true := by simp [isD, h.1, h.2]
    rw [if_neg (by omega), if_pos h1, step_digit h]
  · rfl
  · rfl
theorem fold_is : ∀ (cs : List Nat) (p : Array Nat) (b : Bool), (∀ c ∈ cs, goodC c) → ((cs.foldlM (step 10) (p, b)).bind fun q => if q.2 = true then some q.1 else none) = (dig b cs).map fun ds => p ++ (ds.map (· - 48)).toArray
  | [], p, b, _ => by
    cases b <;> simp [dig]
  | c :: cs, p, b, h => by
    have hc := step_is (p := p) (b := b) (h c (.head _))
    rw [List.foldlM_cons, hc]
    simp only [dig]
    split
    · split
      · exact fold_is cs p false fun d hd => h d (.tail _ hd)
      · rfl
    · split
      · have ih := fold_is cs (p.push (c - 48)) true fun d hd => h d (.tail _ hd)
        refine Eq.trans ih ?_
        cases dig true cs <;> simp
      · rfl
theorem digits_is {cs : List Nat} (h : ∀ c ∈ cs, goodC c) : digits? 10 cs = (dig false cs).map fun ds => (ds.map (· - 48)).toArray := by
  unfold digits?
  rw [fold_is cs #[] false h]
  simp
theorem dig_allD : ∀ {cs ds : List Nat} {b : Bool}, dig b cs = some ds → AllDigits ds ∧ ds.length ≤ cs.length
  | [], ds, b, h => by
    cases b with
    | false => simp [dig] at h
    | true =>
      simp only [dig, if_true, Option.some.injEq] at h
      subst h
      exact ⟨fun d hd => absurd hd (by simp), Nat.le_refl _⟩
  | c :: cs, ds, b, h => by
    simp only [dig] at h
    split at h
    · split at h
      · obtain ⟨h1, h2⟩ := dig_allD h
        exact ⟨h1, Nat.le_succ_of_le h2⟩
      · cases h
    · split at h
      · rename_i hD
        cases hr : dig true cs with
        | none => rw [hr] at h; cases h
        | some r =>
          rw [hr] at h
          cases h
          obtain ⟨h1, h2⟩ := dig_allD hr
          refine ⟨fun d hd => ?_, Nat.succ_le_succ h2⟩
          rcases List.mem_cons.mp hd with rfl | hd
          · simpa [isD] using hD
          · exact h1 d hd
      · cases h
theorem dig_ne : ∀ {cs ds : List Nat}, dig false cs = some ds → ds ≠ []
  | [], ds, h => by simp [dig] at h
  | c :: cs, ds, h => by
    simp only [dig] at h
    split at h
    · simp at h
    · split at h
      · cases hr : dig true cs with
        | none => rw [hr] at h; cases h
        | some r => rw [hr] at h; cases h; simp
      · cases h
end Mine
end
section
open PySem PySem.W PyProof.Rows PySem.Calls PySem.NumText
set_option Elab.async false
namespace Mine
theorem small_fig : ∀ c : Nat, c < 128 → isFig ⟨#[c]⟩ = isD c := by decide +kernel
theorem small_blank : ∀ c : Nat, c < 128 → (!(Builtin.Str.occurrences (Str.ofString " \t") ⟨#[c]⟩ 0 (Str.ofString " \t").length 1).isEmpty) = (c == 32 || c == 9) := by decide +kernel
theorem small_sign : ∀ c : Nat, c < 128 → (!(Builtin.Str.occurrences (Str.ofString "+-") ⟨#[c]⟩ 0 (Str.ofString "+-").length 1).isEmpty) = (c == 43 || c == 45) := by decide +kernel
theorem good_lt {c : Nat} (h : goodC c) : c < 128 := by
  unfold goodC at h; omega
/-- signs kept one by one -/
def accS (f : Str) (ds : List Nat) : Str := ds.foldl (fun f c => addSign f ⟨#[c]⟩) f
theorem goSigns_is : ∀ (cs : List Nat) (f : Str), (∀ c ∈ cs, goodC c) → goSigns f cs = if allD cs = true then some (accS f cs) else none
  | [], f, _ => rfl
  | c :: cs, f, h => by
    have hf := small_fig c (good_lt (h c (.head _)))
    have ih := goSigns_is cs (addSign f ⟨#[c]⟩) fun d hd => h d (.tail _ hd)
    show (if isFig ⟨#[c]⟩ = true then goSigns (addSign f ⟨#[c]⟩) cs else none) = _
    rw [hf, ih]
    cases hD : isD c with
    | false => simp [allD, hD]
    | true =>
      have e : allD (c :: cs) = allD cs := by simp [allD, hD]
      rw [if_pos rfl, e]; rfl
theorem accS_append (f : Str) (a b : List Nat) : accS f (a ++ b) = accS (accS f a) b := by simp [accS, List.foldl_append]
theorem empty_beq (g : Str) : (g == Str.ofString "") = (cl g == []) := by
  have h0 : cl (Str.ofString "") = [] := by decide +kernel
  cases hb : (cl g == []) with
  | true =>
    have : cl g = [] := by simpa using hb
    have : g = Str.ofString "" := cl_inj (this.trans h0.symm)
    subst this
    simp
  | false =>
    cases hc : (g == Str.ofString "") with
    | false => rfl
    | true =>
      have : g = Str.ofString "" := eq_of_beq hc
      subst this
      rw [h0] at hb
      simp at hb
theorem goGroups_is : ∀ (gs : List Str) (f : Str), (∀ g ∈ gs, ∀ c ∈ cl g, goodC c) → goGroups f gs = if (∀ g ∈ gs.map cl, g ≠ [] ∧ allD g = true) then some (accS f (gs.map cl).flatten) else none
  | [], f, _ => by simp [goGroups, accS]
  | g :: gs, f, h => by
    have ih := fun f' => goGroups_is gs f' fun q hq => h q (.tail _ hq)
    have hs := goSigns_is (cl g) f (h g (.head _))
    show (if (g == Str.ofString "") = true then none else (goSigns f (cl g)).bind fun f' => goGroups f' gs) = _
    rw [empty_beq, hs]
    by_cases hg : cl g = []
    · rw [if_pos (by rw [hg]; rfl), if_neg]
      intro q
      exact (q (cl g) (by simp)).1 hg
    · rw [if_neg (by simpa using hg)]
      cases hA : allD (cl g) with
      | false =>
        rw [if_neg (by simp), if_neg]
        · rfl
        · intro q
          have := (q (cl g) (by simp)).2
          rw [hA] at this; cases this
      | true =>
        rw [if_pos rfl]
        show goGroups (accS f (cl g)) gs = _
        rw [ih]
        by_cases h2 : ∀ q ∈ gs.map cl, q ≠ [] ∧ allD q = true
        · rw [if_pos h2, if_pos]
          · simp [accS_append]
          · intro q hq
            rw [List.map_cons] at hq
            rcases List.mem_cons.mp hq with rfl | hq
            · exact ⟨hg, hA⟩
            · exact h2 q hq
        · rw [if_neg h2, if_neg]
          intro q
          exact h2 fun z hz => q z (by rw [List.map_cons]; exact .tail _ hz)
theorem us_eq : Str.ofString "_" = (⟨#[95]⟩ : Str) := by decide +kernel
theorem jl_mem {c : Nat} : ∀ {gs : List (List Nat)} {g : List Nat} {d : Nat}, g ∈ gs → d ∈ g → d ∈ jl c gs
  | [g0], g, d, hg, hd => by rw [List.mem_singleton.mp hg] at hd; exact hd
  | g0 :: g1 :: r, g, d, hg, hd => by
    show d ∈ g0 ++ c :: jl c (g1 :: r)
    rcases List.mem_cons.mp hg with rfl | hg
    · exact List.mem_append_left _ hd
    · exact List.mem_append_right _ (.tail _ (jl_mem hg hd))
/-- the groups of a text, read: the figures -/
theorem groups_dig {x : Str} (h : ∀ c ∈ cl x, goodC c) : goGroups (Str.ofString "") (Txt.split x (Str.ofString "_")) = (dig false (cl x)).map (accS (Str.ofString "")) := by
  rw [us_eq]
  have h1 := StrLaws.join_split x ⟨#[95]⟩
  have h2 := StrLaws.split_free x 95
  have h3 := split_ne x ⟨#[95]⟩
  generalize Txt.split x ⟨#[95]⟩ = gs at h1 h2 h3
  have e : cl x = jl 95 (gs.map cl) := by rw [← join_list, h1]
  have hg : ∀ g ∈ gs, ∀ c ∈ cl g, goodC c := fun g hg c hc => h c (by rw [e]; exact jl_mem (List.mem_map_of_mem hg) hc)
  rw [goGroups_is gs _ hg, e, dig_jl _ (by simpa using h3) (by simpa using h2)]
  split <;> rfl
end Mine
end
section
open PySem PySem.W PyProof.Rows PySem.Calls PySem.NumText
set_option Elab.async false
namespace Mine
theorem cl_zero : cl (Str.ofString "0") = [48] := by decide +kernel
theorem zero_beq (g : Str) : (g == Str.ofString "0") = (cl g == [48]) := by
  cases hb : (cl g == [48]) with
  | true =>
    have : cl g = [48] := by simpa using hb
    have : g = Str.ofString "0" := cl_inj (this.trans cl_zero.symm)
    subst this
    simp
  | false =>
    cases hc : (g == Str.ofString "0") with
    | false => rfl
    | true =>
      have : g = Str.ofString "0" := eq_of_beq hc
      subst this
      rw [cl_zero] at hb
      simp at hb
theorem accS_big : ∀ (ds : List Nat) (f : Str) (c : Nat) (r : List Nat), cl f = c :: r → c ≠ 48 → cl (accS f ds) = c :: r ++ ds
  | [], f, c, r, h, _ => by simpa [accS] using h
  | d :: ds, f, c, r, h, hc => by
    have hz : (f == Str.ofString "0") = false := by
      rw [zero_beq, h]
      simp [hc]
    have ha : addSign f ⟨#[d]⟩ = f ++ ⟨#[d]⟩ := by rw [addSign, if_neg (by rw [hz]; decide)]
    have := accS_big ds (addSign f ⟨#[d]⟩) c (r ++ [d]) (by rw [ha, cl_append, h]; rfl) hc
    show cl (accS (addSign f ⟨#[d]⟩) ds) = _
    rw [this]
    simp
def shown (ds : List Nat) : List Nat := match ds.dropWhile (· == 48) with
  | [] => [48]
  | c :: r => c :: r
theorem accS_zero : ∀ ds : List Nat, cl (accS (Str.ofString "0") ds) = shown ds
  | [] => cl_zero
  | d :: ds => by
    have ha : addSign (Str.ofString "0") ⟨#[d]⟩ = ⟨#[d]⟩ := by rw [addSign, if_pos (by simp)]
    show cl (accS (addSign (Str.ofString "0") ⟨#[d]⟩) ds) = _
    rw [ha]
    by_cases h : d = 48
    · subst h
      have e : (⟨#[48]⟩ : Str) = Str.ofString "0" := by decide +kernel
      rw [e, accS_zero ds]
      simp [shown]
    · rw [accS_big ds ⟨#[d]⟩ d [] rfl h]
      simp [shown, List.dropWhile_cons, h]
theorem accS_nil {ds : List Nat} (h : ds ≠ []) : cl (accS (Str.ofString "") ds) = shown ds := by
  cases ds with
  | nil => exact absurd rfl h
  | cons d ds =>
    have h0 : (Str.ofString "" == Str.ofString "0") = false := by decide +kernel
    have ha : addSign (Str.ofString "") ⟨#[d]⟩ = ⟨#[d]⟩ := by
      rw [addSign, if_neg (by rw [h0]; decide)]
      apply cl_inj
      rw [cl_append]
      have : cl (Str.ofString "") = [] := by decide +kernel
      rw [this]; rfl
    show cl (accS (addSign (Str.ofString "") ⟨#[d]⟩) ds) = _
    rw [ha]
    by_cases h : d = 48
    · subst h
      have e : (⟨#[48]⟩ : Str) = Str.ofString "0" := by decide +kernel
      rw [e, accS_zero ds]
      simp [shown]
    · rw [accS_big ds ⟨#[d]⟩ d [] rfl h]
      simp [shown, List.dropWhile_cons, h]
theorem val_drop : ∀ ds : List Nat, digitsVal (ds.dropWhile (· == 48)) = digitsVal ds
  | [] => rfl
  | d :: ds => by
    rw [List.dropWhile_cons]
    split
    · rename_i h
      have : d = 48 := by simpa using h
      subst this
      rw [digitsVal_zero, val_drop ds]
    · rfl
theorem shown_zero {ds : List Nat} (h : AllDigits ds) : (shown ds == [48]) = decide (digitsVal ds = 0) := by
  have hv := val_drop ds
  unfold shown
  cases e : ds.dropWhile (· == 48) with
  | nil =>
    rw [e] at hv
    have : digitsVal ds = 0 := hv.symm
    simp [this]
  | cons c r =>
    have hc : c ≠ 48 := by
      intro q
      have := List.head?_dropWhile_not (· == 48) ds
      rw [e] at this
      simp [q] at this
    have hm : c ∈ ds := (List.dropWhile_sublist (· == 48)).subset (by rw [e]; exact .head _)
    have := h c hm
    have hp : 0 < digitsVal (c :: r) := digitsVal_pos (by omega)
    rw [e] at hv
    have hne : digitsVal ds ≠ 0 := by omega
    simp [hne, hc]
theorem cl_ofString (s : String) : cl (Str.ofString s) = s.toList.map Char.toNat := by
  rw [PySem.Str.ofString_eq_toList]
theorem char_back {c : Nat} (h : 48 ≤ c ∧ c ≤ 57) : (Char.ofNat c).toNat = c := by
  have : ∀ c : Nat, c < 128 → (Char.ofNat c).toNat = c := by decide +kernel
  exact this c (by omega)
theorem cl_nat {ds : List Nat} (h : AllDigits ds) : cl (Str.ofString (toString (digitsVal ds))) = shown ds := by
  rw [cl_ofString]
  have e : (toString (digitsVal ds)).toList = Nat.toDigits 10 (digitsVal ds) := by
    show (Nat.repr (digitsVal ds)).toList = _
    simp [Nat.repr]
  rw [e, toDigits_all ds h]
  unfold shown
  cases e : ds.dropWhile (· == 48) with
  | nil => rfl
  | cons c r =>
    show ((c :: r).map Char.ofNat).map Char.toNat = c :: r
    have hm : ∀ d ∈ c :: r, 48 ≤ d ∧ d ≤ 57 := fun d hd => h d ((List.dropWhile_sublist (· == 48)).subset (by rw [e]; exact hd))
    rw [List.map_map]
    conv => rhs; rw [← List.map_id (c :: r)]
    exact List.map_congr_left fun d hd => char_back (hm d hd)
/-- the number's text -/
theorem worth_str {ds : List Nat} (h : AllDigits ds) (hne : ds ≠ []) (neg : Bool) : Str.ofString (toString (worth neg (ds.map (· - 48)).toArray)) = endF neg (accS (Str.ofString "") ds) := by
  have hv : (ds.map (· - 48)).toArray.foldl (fun acc d => acc * 10 + d) 0 = digitsVal ds := by
    rw [List.foldl_toArray, List.foldl_map]; rfl
  have ha : Str.ofString (toString (digitsVal ds)) = accS (Str.ofString "") ds := cl_inj ((cl_nat h).trans (accS_nil hne).symm)
  have hz : (accS (Str.ofString "") ds == Str.ofString "0") = decide (digitsVal ds = 0) := by rw [zero_beq, accS_nil hne, shown_zero h]
  unfold worth endF
  rw [hv, hz]
  cases neg with
  | false => exact ha
  | true =>
    by_cases e : digitsVal ds = 0
    · simp only [e, decide_true, Bool.not_true, Bool.and_false, Bool.false_eq_true, if_false, if_true]
      rw [← ha, e]; rfl
    · simp only [e, decide_false, Bool.not_false, Bool.and_true, if_true]
      rw [← ha]
      obtain ⟨k, hk⟩ : ∃ k, digitsVal ds = k + 1 := ⟨digitsVal ds - 1, by omega⟩
      rw [hk]
      apply cl_inj
      rw [cl_append, cl_ofString, cl_ofString, cl_ofString]
      rw [← List.map_append]
      congr 1
      have : toString (-((k + 1 : Nat) : Int)) = "-" ++ toString (k + 1) := rfl
      rw [this, String.toList_append]
end Mine
end
section
open PySem PySem.W PyProof.Rows PySem.Calls PySem.NumText
set_option Elab.async false
namespace Mine
def bl (c : Nat) : Bool := c == 32 || c == 9
theorem blank_bl {c : Nat} (h : goodC c) : blank c = bl c := by
  rcases h with rfl | rfl | rfl | rfl | h | rfl | rfl
  · rfl
  · rfl
  · rfl
  · rfl
  · have h1 : bl c = false := by simp [bl]; omega
    rw [h1, blank_of (by omega)]
  · rfl
  · rfl
theorem mem_tw {p : Nat → Bool} : ∀ {l : List Nat} {c : Nat}, c ∈ l.takeWhile p → p c = true
  | [], _, h => absurd h (by simp)
  | d :: r, c, h => by
    rw [List.takeWhile_cons] at h
    split at h
    · rename_i hd
      rcases List.mem_cons.mp h with rfl | h
      · exact hd
      · exact mem_tw h
    · exact absurd h (by simp)
theorem dw_nil {p : Nat → Bool} : ∀ {l : List Nat}, l.dropWhile p = [] ↔ ∀ c ∈ l, p c = true
  | [] => by simp
  | d :: r => by
    rw [List.dropWhile_cons]
    cases h : p d with
    | true =>
      rw [if_pos rfl, dw_nil]
      simp [h]
    | false => simp [h]
def trimR (p : Nat → Bool) (l : List Nat) : List Nat := (l.reverse.dropWhile p).reverse
theorem trimR_split (p : Nat → Bool) (l : List Nat) : ∃ q, l = trimR p l ++ q ∧ (∀ c ∈ q, p c = true) := by
  refine ⟨(l.reverse.takeWhile p).reverse, ?_, fun c hc => ?_⟩
  · have := congrArg List.reverse (List.takeWhile_append_dropWhile (p := p) (l := l.reverse))
    rw [List.reverse_append, List.reverse_reverse] at this
    exact this.symm
  · exact mem_tw (List.mem_reverse.mp hc)
theorem trimR_cons {p : Nat → Bool} {c : Nat} {r : List Nat} (h : p c = false) : trimR p (c :: r) = c :: trimR p r := by
  unfold trimR
  rw [List.reverse_cons, List.dropWhile_append]
  split
  · rename_i e
    have : (r.reverse.dropWhile p) = [] := by simpa using e
    rw [this]
    simp [List.dropWhile_cons, h]
  · simp
theorem trimR_last {p : Nat → Bool} {l : List Nat} {z : Nat} (h : (trimR p l).getLast? = some z) : p z = false := by
  unfold trimR at h
  rw [List.getLast?_reverse] at h
  have := List.head?_dropWhile_not p l.reverse
  rw [h] at this
  simpa using this
theorem dropWhile_congr' {p q : Nat → Bool} : ∀ {l : List Nat}, (∀ c ∈ l, p c = q c) → l.dropWhile p = l.dropWhile q
  | [], _ => rfl
  | c :: r, h => by
    rw [List.dropWhile_cons, List.dropWhile_cons, h c (.head _), dropWhile_congr' fun d hd => h d (.tail _ hd)]
theorem sorted_first {P : List Int} (hs : P.Pairwise (· < ·)) {a : Int} (ha : a ∈ P) (hmin : ∀ k ∈ P, a ≤ k) : P.getD 0 0 = a := by
  cases P with
  | nil => exact absurd ha (by simp)
  | cons k r =>
    show k = a
    rcases List.mem_cons.mp ha with e | ha
    · exact e.symm
    · have h1 := (List.pairwise_cons.mp hs).1 a ha
      have h2 := hmin k (.head _)
      omega
theorem sorted_last {P : List Int} (hs : P.Pairwise (· < ·)) {a : Int} (ha : a ∈ P) (hmax : ∀ k ∈ P, k ≤ a) : P.getD (P.length - 1) 0 = a := by
  have hne : P ≠ [] := List.ne_nil_of_mem ha
  have e := List.dropLast_concat_getLast hne
  have hg : P.getD (P.length - 1) 0 = P.getLast hne := by
    have hl : P.length - 1 < P.length := by have := List.length_pos_iff.mpr hne; omega
    rw [List.getD_eq_getElem?_getD, List.getElem?_eq_getElem hl, List.getLast_eq_getElem]; rfl
  rw [hg]
  generalize P.getLast hne = z at e
  generalize P.dropLast = ini at e
  subst e
  rcases List.mem_append.mp ha with ha | ha
  · have h1 := (List.pairwise_append.mp hs).2.2 a ha z (by simp)
    have h2 := hmax z (by simp)
    omega
  · exact (List.mem_singleton.mp ha).symm
theorem item_at {x : Str} {i : Nat} (h : i < (cl x).length) : Txt.item x (i : Int) = ⟨#[(cl x)[i]]⟩ := by
  have hl : i < x.length := by rw [← cl_len]; exact h
  have e : Txt.charAt x (i : Int) = some (cl x)[i] := by
    unfold Txt.charAt
    have e1 : PySem.seqIndex? (i : Int) x.length = some i := by
      unfold PySem.seqIndex?
      have h0 : ¬ ((i : Int) < 0) := by omega
      simp only [h0, if_false]
      rw [if_pos (by simp; omega)]
      simp
    rw [e1]
    show x.cps[i]? = _
    rw [← Array.getElem?_toList]
    exact List.getElem?_eq_getElem h
  show (⟨#[(Txt.charAt x (i : Int)).getD 0]⟩ : Str) = _
  rw [e]; rfl
theorem blank_at {x : Str} (hg : GoodT x) {i : Nat} (h : i < (cl x).length) : blankAt x (i : Int) = bl (cl x)[i] := by
  unfold blankAt
  rw [item_at h]
  exact small_blank _ (good_lt (hg _ (List.getElem_mem h)))
theorem mem_places {x : Str} (hg : GoodT x) {k : Int} : k ∈ placesL x ↔ ∃ i : Nat, ∃ h : i < (cl x).length, k = (i : Int) ∧ bl (cl x)[i] = false := by
  rw [placesL_filter, List.mem_filter]
  constructor
  · rintro ⟨h1, h2⟩
    obtain ⟨a, b⟩ := mem_rangeKs h1
    have hk : k.toNat < (cl x).length := by rw [cl_len]; omega
    refine ⟨k.toNat, hk, by omega, ?_⟩
    have e : ((k.toNat : Nat) : Int) = k := by omega
    have := blank_at hg hk
    rw [e] at this
    rw [this] at h2
    simpa using h2
  · rintro ⟨i, h, rfl, hb⟩
    refine ⟨?_, by rw [blank_at hg h, hb]; rfl⟩
    rw [cl_len] at h
    unfold rangeKs
    exact List.mem_map.mpr ⟨i, List.mem_range.mpr h, by omega⟩
theorem places_sorted (x : Str) : (placesL x).Pairwise (· < ·) := by
  rw [placesL_filter]; exact (rangeKs_sorted _).filter _
theorem places_nil {x : Str} (hg : GoodT x) : placesL x = [] ↔ (cl x).dropWhile bl = [] := by
  constructor
  · intro h
    rw [dw_nil]
    intro c hc
    obtain ⟨i, hi, e⟩ := List.getElem_of_mem hc
    cases hb : bl c with
    | true => rfl
    | false =>
      have : (i : Int) ∈ placesL x := (mem_places hg).mpr ⟨i, hi, rfl, by rw [e]; exact hb⟩
      rw [h] at this
      exact absurd this (by simp)
  · intro h
    rw [dw_nil] at h
    apply List.eq_nil_iff_forall_not_mem.mpr
    intro k hk
    obtain ⟨i, hi, _, hb⟩ := (mem_places hg).mp hk
    rw [h _ (List.getElem_mem hi)] at hb
    cases hb
/-- what stands between the blanks -/
theorem kept_is {x : Str} (hg : GoodT x) (hne : placesL x ≠ []) : cl (keptF x) = trimR bl ((cl x).dropWhile bl) := by
  have hd : (cl x).dropWhile bl ≠ [] := fun e => hne ((places_nil hg).mpr e)
  obtain ⟨q, eq, hq⟩ := trimR_split bl ((cl x).dropWhile bl)
  generalize hm : trimR bl ((cl x).dropWhile bl) = mm at eq
  have ex : cl x = (cl x).takeWhile bl ++ (mm ++ q) := by rw [← eq]; exact (List.takeWhile_append_dropWhile).symm
  generalize hp : (cl x).takeWhile bl = p at ex
  have hpb : ∀ c ∈ p, bl c = true := fun c hc => mem_tw (hp ▸ hc)
  have hmne : mm ≠ [] := by
    intro e
    rw [e, List.nil_append] at eq
    have h1 := List.head?_dropWhile_not bl (cl x)
    rw [eq] at h1 hd
    cases q with
    | nil => exact hd rfl
    | cons c r =>
      have := hq c (.head _)
      simp [this] at h1
  have hhead : ∀ c, mm.head? = some c → bl c = false := by
    intro c hc
    have h1 := List.head?_dropWhile_not bl (cl x)
    rw [eq, List.head?_append, hc] at h1
    simpa using h1
  have hlast : ∀ c, mm.getLast? = some c → bl c = false := fun c hc => trimR_last (hm ▸ hc)
  have hml : 0 < mm.length := List.length_pos_iff.mpr hmne
  have hlen : (cl x).length = p.length + (mm.length + q.length) := by rw [ex]; simp
  have get_p : ∀ i (h : i < (cl x).length), i < p.length → bl (cl x)[i] = true := by
    intro i h hi
    have : (cl x)[i] = p[i] := by
      have := List.getElem?_append_left (l₂ := mm ++ q) hi
      rw [← ex] at this
      rw [List.getElem?_eq_getElem h, List.getElem?_eq_getElem hi] at this
      exact Option.some.inj this
    rw [this]
    exact hpb _ (List.getElem_mem hi)
  have get_q : ∀ i (h : i < (cl x).length), p.length + mm.length ≤ i → bl (cl x)[i] = true := by
    intro i h hi
    have h2 : i - (p.length + mm.length) < q.length := by omega
    have : (cl x)[i] = q[i - (p.length + mm.length)] := by
      have h3 := List.getElem?_append_right (l₁ := p ++ mm) (l₂ := q) (i := i) (by simpa using hi)
      rw [List.append_assoc, ← ex, List.length_append] at h3
      rw [List.getElem?_eq_getElem h, List.getElem?_eq_getElem h2] at h3
      exact Option.some.inj h3
    rw [this]
    exact hq _ (List.getElem_mem h2)
  have get_m : ∀ j (hj : j < mm.length) (h : p.length + j < (cl x).length), (cl x)[p.length + j] = mm[j] := by
    intro j hj h
    have h3 := List.getElem?_append_right (l₁ := p) (l₂ := mm ++ q) (i := p.length + j) (by omega)
    rw [← ex, Nat.add_sub_cancel_left, List.getElem?_append_left hj] at h3
    rw [List.getElem?_eq_getElem h, List.getElem?_eq_getElem hj] at h3
    exact Option.some.inj h3
  have hfirst : (placesL x).getD 0 0 = (p.length : Int) := by
    refine sorted_first (places_sorted x) ((mem_places hg).mpr ⟨p.length, by omega, rfl, ?_⟩) ?_
    · have := get_m 0 hml (by omega)
      simp only [Nat.add_zero] at this
      rw [this]
      exact hhead _ (by rw [List.head?_eq_getElem?, List.getElem?_eq_getElem hml])
    · intro k hk
      obtain ⟨i, hi, rfl, hb⟩ := (mem_places hg).mp hk
      by_cases hlt : i < p.length
      · rw [get_p i hi hlt] at hb; cases hb
      · omega
  have hlst : (placesL x).getD ((placesL x).length - 1) 0 = ((p.length + (mm.length - 1) : Nat) : Int) := by
    refine sorted_last (places_sorted x) ((mem_places hg).mpr ⟨p.length + (mm.length - 1), by omega, rfl, ?_⟩) ?_
    · rw [get_m (mm.length - 1) (by omega) (by omega)]
      exact hlast _ (by rw [List.getLast?_eq_getElem?, List.getElem?_eq_getElem (by omega)])
    · intro k hk
      obtain ⟨i, hi, rfl, hb⟩ := (mem_places hg).mp hk
      by_cases hge : p.length + mm.length ≤ i
      · rw [get_q i hi hge] at hb; cases hb
      · omega
  rw [keptF_eq (List.length_pos_iff.mpr hne), hfirst, hlst]
  show (((cl x).drop _).take _) = mm
  have e1 : ((p.length : Nat) : Int).toNat = p.length := by omega
  have e2 : (((p.length + (mm.length - 1) : Nat) : Int) + 1 - (p.length : Int)).toNat = mm.length := by omega
  rw [e1, e2, ex, List.drop_left, List.take_left]
end Mine
end
section
open PySem PySem.W PyProof.Rows PySem.Calls PySem.NumText
set_option Elab.async false
namespace Mine
theorem seen_good {x : Str} (h : GoodT x) : numTextOf x = cl x ∧ numSeenOf x = cl x := by
  have e1 : numTextOf x = cl x := by
    show (if x.cps.all (· < 128) = true then x.cps.toList else Unicode.numberText x.cps.toList) = _
    rw [if_pos]
    rw [← Array.all_toList, List.all_eq_true]
    intro c hc
    exact decide_eq_true (good_lt (h c hc))
  refine ⟨e1, ?_⟩
  show (numTextOf x).takeWhile _ = _
  rw [e1]
  refine takeWhile_all fun c hc => ?_
  have := h c hc
  exact bne_iff_ne.mpr (by unfold goodC at this; omega)
theorem intText_good {x : Str} (h : GoodT x) : PySem.intText? x = match digits? 10 (core (cl x)) with
      | some ds => if ds.size ≤ 4300 then some (worth (sign ((cl x).dropWhile blank)).1 ds) else none
      | none => none := by
  obtain ⟨e1, e2⟩ := seen_good h
  unfold PySem.intText?
  rw [e1, e2]
  exact if_pos (beq_self_eq_true _)
theorem dw_mem {p : Nat → Bool} {l : List Nat} {c : Nat} (h : c ∈ l.dropWhile p) : c ∈ l := (List.dropWhile_sublist p).subset h
theorem trimR_mem {p : Nat → Bool} {l : List Nat} {c : Nat} (h : c ∈ trimR p l) : c ∈ l := by
  unfold trimR at h
  exact List.mem_reverse.mp (dw_mem (List.mem_reverse.mp h))
theorem trim_blank {l : List Nat} (h : ∀ c ∈ l, goodC c) : trimR blank l = trimR bl l := by
  unfold trimR
  rw [dropWhile_congr' fun c hc => blank_bl (h c (List.mem_reverse.mp hc))]
theorem slice_one {x : Str} (h : 1 ≤ x.length) : cl (Txt.slice x (some 1) none) = (cl x).drop 1 := by
  rw [slice_from_eq (b := x.length) (by decide) (by omega) rfl]
  show ((cl x).drop _).take _ = _
  have e : ((x.length : Int) - 1).toNat = ((cl x).drop 1).length := by rw [List.length_drop, cl_len]; omega
  rw [show (1 : Int).toNat = 1 from rfl, e, List.take_length]
theorem minus_beq (c : Nat) : ((⟨#[c]⟩ : Str) == Str.ofString "-") = (c == 45) := by
  have h0 : Str.ofString "-" = (⟨#[45]⟩ : Str) := by decide +kernel
  rw [h0]
  by_cases h : c = 45
  · subst h; decide
  · have h1 : ((⟨#[c]⟩ : Str) == ⟨#[45]⟩) = false := by
      cases hb : ((⟨#[c]⟩ : Str) == ⟨#[45]⟩) with
      | false => rfl
      | true =>
        have := congrArg cl (eq_of_beq hb)
        simp at this
        exact absurd this h
    rw [h1]; simp [h]
theorem read_is {cs : List Nat} {neg : Bool} (hg : ∀ c ∈ cs, goodC c) (hl : cs.length ≤ 4300) :
    ((match digits? 10 cs with
      | some ds => if ds.size ≤ 4300 then some (worth neg ds) else none
      | none => none).map fun n => Str.ofString (toString n)) = ((dig false cs).map (accS (Str.ofString ""))).map (endF neg) := by
  rw [digits_is hg]
  cases hd : dig false cs with
  | none => rfl
  | some ds =>
    obtain ⟨h1, h2⟩ := dig_allD hd
    have h3 := dig_ne hd
    show Option.map _ (if _ ≤ 4300 then _ else none) = _
    rw [if_pos (by simp; omega)]
    show some (Str.ofString (toString (worth neg (ds.map (· - 48)).toArray))) = some _
    rw [worth_str h1 h3]
/-- the law's reading and int's are one -/
theorem plain_is {x : Str} (hg : GoodT x) (hl : x.length ≤ 4300) : plainF x = plainT x := by
  unfold plainT
  rw [intText_good hg]
  have hgd : ∀ c ∈ (cl x).dropWhile bl, goodC c := fun c hc => hg c (dw_mem hc)
  have hbb : (cl x).dropWhile blank = (cl x).dropWhile bl := dropWhile_congr' fun c hc => blank_bl (hg c hc)
  have hlen : ((cl x).dropWhile bl).length ≤ 4300 := by
    have := (List.dropWhile_sublist (l := cl x) bl).length_le
    rw [cl_len] at this
    omega
  have hcore : core (cl x) = trimR blank (sign ((cl x).dropWhile bl)).2 := by unfold core trimR; rw [hbb]
  rw [hcore, hbb]
  unfold plainF
  by_cases hp : placesL x = []
  · rw [if_pos hp, (places_nil hg).mp hp]
    rfl
  · rw [if_neg hp]
    have hk := kept_is hg hp
    have hne : (cl x).dropWhile bl ≠ [] := fun e => hp ((places_nil hg).mpr e)
    have hhead := List.head?_dropWhile_not bl (cl x)
    generalize (cl x).dropWhile bl = t at *
    cases t with
    | nil => exact absurd rfl hne
    | cons c r =>
      have hc : bl c = false := by simpa using hhead
      rw [trimR_cons hc] at hk
      have hgc : goodC c := hgd c (.head _)
      have hgr : ∀ d ∈ r, goodC d := fun d hd => hgd d (.tail _ hd)
      have hlr : r.length + 1 ≤ 4300 := hlen
      have hkl : (keptF x).length = (trimR bl r).length + 1 := by rw [← cl_len, hk]; rfl
      have hit : Txt.item (keptF x) 0 = ⟨#[c]⟩ := by
        have h0 : 0 < (cl (keptF x)).length := by rw [hk]; simp
        have := item_at h0
        simp only [hk, List.getElem_cons_zero] at this
        exact this
      have hsg : signAt (keptF x) = (c == 43 || c == 45) := by
        unfold signAt
        rw [hit]
        exact small_sign c (good_lt hgc)
      have hmi : (Txt.item (keptF x) 0 == Str.ofString "-") = (c == 45) := by rw [hit, minus_beq]
      rw [hmi]
      have trl : (trimR bl r).length ≤ r.length := by
        unfold trimR
        rw [List.length_reverse]
        have := (List.dropWhile_sublist (l := r.reverse) bl).length_le
        rwa [List.length_reverse] at this
      -- a sign ahead, or none
      by_cases hs : c = 43 ∨ c = 45
      · have h1 : signAt (keptF x) = true := by rw [hsg]; rcases hs with rfl | rfl <;> rfl
        have hb : cl (bareF (keptF x)) = trimR bl r := by
          unfold bareF
          rw [if_pos h1, slice_one (by omega), hk]; rfl
        have h2 : (sign (c :: r)) = (c == 45, r) := by rcases hs with rfl | rfl <;> rfl
        have hgt : ∀ d ∈ trimR bl r, goodC d := fun d hd => hgr d (trimR_mem hd)
        rw [groups_dig (by rw [hb]; exact hgt), hb, h2]
        show _ = Option.map _ (match digits? 10 (trimR blank r) with | some ds => _ | none => _)
        rw [trim_blank hgr]
        exact (read_is hgt (by omega)).symm
      · have h1 : signAt (keptF x) = false := by rw [hsg]; simp; omega
        have hb : cl (bareF (keptF x)) = c :: trimR bl r := by
          unfold bareF
          rw [if_neg (by rw [h1]; decide), hk]
        have h2 : (sign (c :: r)) = (c == 45, c :: r) := by
          rw [sign_of (by omega) (by omega)]
          have : (c == 45) = false := by simp; omega
          rw [this]
        have hgt : ∀ d ∈ c :: trimR bl r, goodC d := by
          intro d hd
          rcases List.mem_cons.mp hd with rfl | hd
          · exact hgc
          · exact hgr d (trimR_mem hd)
        rw [groups_dig (by rw [hb]; exact hgt), hb, h2]
        show _ = Option.map _ (match digits? 10 (trimR blank (c :: r)) with | some ds => _ | none => _)
        rw [trim_blank hgd, trimR_cons hc]
        exact (read_is hgt (by simp; omega)).symm
end Mine
end
section
open PySem PySem.W PyProof.Rows PySem.Calls PySem.NumText
set_option Elab.async false
namespace Mine
theorem val_lt : ∀ {ds : List Nat}, AllDigits ds → digitsVal ds < 10 ^ ds.length := by
  intro ds
  induction ds using rev_ind with
  | nil => intro _; decide
  | snoc l a ih =>
    intro h
    have h1 := ih fun d hd => h d (List.mem_append_left _ hd)
    have h2 := h a (by simp)
    rw [digitsVal_snoc, List.length_append]
    show _ < 10 ^ (l.length + 1)
    rw [Nat.pow_succ]
    omega
theorem core_mem {l : List Nat} {c : Nat} (h : c ∈ core l) : c ∈ l := by
  unfold core at h
  have h1 := List.mem_reverse.mp (dw_mem (List.mem_reverse.mp h))
  have h2 : c ∈ l.dropWhile blank := by
    unfold sign at h1
    split at h1
    · rename_i r e; rw [e]; exact .tail _ h1
    · rename_i r e; rw [e]; exact .tail _ h1
    · exact h1
  exact dw_mem h2
/-- the shape of a number that is read -/
theorem read_form {x : Str} (hg : GoodT x) {n : Int} (h : PySem.intText? x = some n) : ∃ ds neg, AllDigits ds ∧ ds ≠ [] ∧ ds.length ≤ x.length ∧ n = worth neg (ds.map (· - 48)).toArray := by
  rw [intText_good hg, digits_is fun c hc => hg c (core_mem hc)] at h
  cases hd : dig false (core (cl x)) with
  | none => rw [hd] at h; cases h
  | some ds =>
    rw [hd] at h
    obtain ⟨h1, h2⟩ := dig_allD hd
    have h3 := core_length (cl x)
    rw [cl_len] at h3
    have h' : (if _ ≤ 4300 then some (worth _ (ds.map (· - 48)).toArray) else none) = some n := h
    split at h'
    · exact ⟨ds, _, h1, dig_ne hd, Nat.le_trans h2 h3, (Option.some.inj h').symm⟩
    · cases h'
theorem abs_worth {ds : List Nat} {neg : Bool} : (worth neg (ds.map (· - 48)).toArray).natAbs = digitsVal ds := by
  have hv : (ds.map (· - 48)).toArray.foldl (fun acc d => acc * 10 + d) 0 = digitsVal ds := by
    rw [List.foldl_toArray, List.foldl_map]; rfl
  unfold worth
  rw [hv]
  cases neg <;> simp
theorem shown_len {ds : List Nat} (h : ds ≠ []) : (shown ds).length ≤ ds.length := by
  unfold shown
  have h1 := (List.dropWhile_sublist (l := ds) (· == 48)).length_le
  have h2 : 0 < ds.length := List.length_pos_iff.mpr h
  split
  · exact h2
  · rename_i e; rw [e] at h1; exact h1
theorem shown_all {ds : List Nat} (h : AllDigits ds) : AllDigits (shown ds) ∧ shown ds ≠ [] ∧ digitsVal (shown ds) = digitsVal ds := by
  have hv := val_drop ds
  unfold shown
  split
  · rename_i e
    rw [e] at hv
    refine ⟨fun d hd => ?_, by simp, ?_⟩
    · rw [List.mem_singleton.mp hd]; omega
    · rw [← hv]; rfl
  · rename_i c r e
    rw [e] at hv
    exact ⟨fun d hd => h d (dw_mem (by rw [e]; exact hd)), by simp, hv⟩
theorem endF_len (neg : Bool) (f : Str) : (endF neg f).length ≤ f.length + 1 := by
  unfold endF
  have h1 : (Str.ofString "-").length = 1 := by decide +kernel
  split
  · rw [Str.length_append]; omega
  · omega
theorem dash_cl : cl (Str.ofString "-") = [45] := by decide +kernel
theorem digit_good {ds : List Nat} (h : AllDigits ds) : ∀ c ∈ ds, goodC c := fun c hc => by
  have := h c hc
  unfold goodC; omega
/-- what a plain text is -/
theorem plain_form {x y : Str} (hg : GoodT x) (hl : x.length ≤ 4300) (h : plainF x = some y) : ∃ ds neg, AllDigits ds ∧ ds ≠ [] ∧ ds.length ≤ x.length ∧ y = endF neg (accS (Str.ofString "") ds) := by
  rw [plain_is hg hl] at h
  unfold plainT at h
  cases hn : PySem.intText? x with
  | none => rw [hn] at h; cases h
  | some n =>
    rw [hn] at h
    obtain ⟨ds, neg, h1, h2, h3, rfl⟩ := read_form hg hn
    refine ⟨ds, neg, h1, h2, h3, ?_⟩
    rw [← worth_str h1 h2]
    exact (Option.some.inj h).symm
theorem plain_good {x y : Str} (hg : GoodT x) (hl : x.length ≤ 4300) (h : plainF x = some y) : GoodT y ∧ y.length ≤ x.length + 1 := by
  obtain ⟨ds, neg, h1, h2, h3, rfl⟩ := plain_form hg hl h
  have hs := accS_nil h2
  have ha := (shown_all h1).1
  refine ⟨fun c hc => ?_, ?_⟩
  · have hc : c ∈ cl (endF neg (accS (Str.ofString "") ds)) := hc
    unfold endF at hc
    split at hc
    · rw [cl_append, dash_cl, hs] at hc
      rcases List.mem_append.mp hc with hc | hc
      · rw [List.mem_singleton.mp hc]; unfold goodC; omega
      · exact digit_good ha c hc
    · rw [hs] at hc
      exact digit_good ha c hc
  · have := endF_len neg (accS (Str.ofString "") ds)
    have h4 := shown_len h2
    rw [← hs, cl_len] at h4
    omega
/-- a plain text stays -/
theorem plain_again {x y : Str} (hg : GoodT x) (hl : x.length ≤ 4000) (h : plainF x = some y) : plainF y = some y := by
  obtain ⟨hgy, hly⟩ := plain_good hg (by omega) h
  obtain ⟨ds, neg, h1, h2, h3, e⟩ := plain_form hg (by omega) h
  have hs := accS_nil h2
  obtain ⟨ha, hne, hv⟩ := shown_all h1
  rw [plain_is hgy (by omega)]
  unfold plainT
  have h0 : (accS (Str.ofString "") ds).length ≤ 4300 := by
    have h4 := shown_len h2
    rw [← hs, cl_len] at h4
    omega
  by_cases hd : (neg && !(accS (Str.ofString "") ds == Str.ofString "0")) = true
  · have ey : y = Str.ofString "-" ++ accS (Str.ofString "") ds := by rw [e, endF, if_pos hd]
    have hcl : y.cps.toList = 45 :: shown ds := by
      show cl y = _
      rw [ey, cl_append, dash_cl, hs]; rfl
    rw [intText_neg hcl ha hne (by omega)]
    have hw := worth_str ha hne true
    have hv2 : worth true ((shown ds).map (· - 48)).toArray = -((digitsVal (shown ds) : Nat) : Int) := by
      have hv : ((shown ds).map (· - 48)).toArray.foldl (fun acc d => acc * 10 + d) 0 = digitsVal (shown ds) := by
        rw [List.foldl_toArray, List.foldl_map]; rfl
      unfold worth
      rw [hv]; rfl
    rw [hv2] at hw
    show some (Str.ofString (toString (-((digitsVal (shown ds) : Nat) : Int)))) = some y
    rw [hw]
    have hn : neg = true := by
      cases neg with
      | true => rfl
      | false => simp at hd
    have e2 : accS (Str.ofString "") (shown ds) = accS (Str.ofString "") ds := by
      have k1 := cl_nat ha
      have k2 := cl_nat h1
      rw [hv] at k1
      have k3 : shown (shown ds) = shown ds := k1.symm.trans k2
      exact cl_inj (by rw [accS_nil hne, hs, k3])
    rw [e2, e, hn]
  · have ey : y = accS (Str.ofString "") ds := by rw [e, endF, if_neg hd]
    have hcl : y.cps.toList = shown ds := by
      show cl y = _
      rw [ey, hs]
    rw [intText_digits (by rw [hcl]; exact ha) (by rw [hcl]; exact hne) (by omega), hcl, hv]
    show some (Str.ofString (toString ((digitsVal ds : Nat) : Int))) = some y
    have k : Str.ofString (toString (digitsVal ds)) = accS (Str.ofString "") ds := cl_inj ((cl_nat h1).trans hs.symm)
    rw [ey, ← k]; rfl
theorem log_small {n : Nat} (h : n < 10 ^ 100) : n.log2 < 1920 := by
  by_cases h0 : n = 0
  · subst h0; decide
  · rw [Nat.log2_lt h0]
    exact Nat.lt_trans h (by decide +kernel)
theorem fit_good {x : Str} (hg : GoodT x) (hl : x.length ≤ 100) : Fit x := by
  refine ⟨by omega, ?_, ?_, ?_⟩
  · have := StrLaws.reprText_len x fun c hc => Nat.lt_trans (good_lt (hg c hc)) (by decide)
    rw [sizeLine_eq]; omega
  · intro n hn
    obtain ⟨ds, neg, h1, h2, h3, rfl⟩ := read_form hg hn
    rw [abs_worth]
    exact log_small (Nat.lt_of_lt_of_le (val_lt h1) (Nat.pow_le_pow_right (by decide) (by omega)))
  · intro n hn
    obtain ⟨ds, neg, h1, h2, h3, rfl⟩ := read_form hg hn
    rw [worth_str h1 h2]
    have := endF_len neg (accS (Str.ofString "") ds)
    have h4 := shown_len h2
    rw [← accS_nil h2, cl_len] at h4
    omega
end Mine
end
section
open PySem PySem.W PyProof.Rows PySem.Calls PySem.NumText
set_option Elab.async false
namespace Mine
open Builtin Builtin.Str
theorem sub_one {x : Str} {c i : Nat} : subAt x ⟨#[c]⟩ i = true ↔ (cl x)[i]? = some c := by
  rw [StrLaws.subAt_eq]
  show (((cl x).drop i).take 1 == [c]) = true ↔ _
  rw [beq_iff_eq]
  cases h : (cl x).drop i with
  | nil =>
    have : (cl x)[i]? = none := by
      rw [List.drop_eq_nil_iff] at h
      exact List.getElem?_eq_none h
    rw [this]; simp
  | cons d r =>
    have : (cl x)[i]? = some d := by
      have := congrArg (fun l => l[0]?) h
      simpa using this
    rw [this]; simp
theorem at_one {x : Str} {c hi i : Nat} : StrLaws.At x ⟨#[c]⟩ hi i ↔ i < hi ∧ (cl x)[i]? = some c := by
  unfold StrLaws.At
  rw [sub_one]
  exact ⟨fun h => ⟨h.1, h.2⟩, fun h => ⟨h.1, h.2⟩⟩
/-- the first place below a bound -/
theorem occ_hi (x : Str) (c hi : Nat) : (occurrences x ⟨#[c]⟩ 0 hi 1 = [] ∧ ∀ i, i < hi → (cl x)[i]? ≠ some c) ∨
    ∃ i r, occurrences x ⟨#[c]⟩ 0 hi 1 = i :: r ∧ i < hi ∧ (cl x)[i]? = some c ∧ ∀ k, k < i → (cl x)[k]? ≠ some c := by
  rw [StrLaws.occ_eq]
  rcases StrLaws.occ_first x ⟨#[c]⟩ hi 1 (Nat.le_refl _) (List.range' 0 (hi + 1 - 0)) 0 (fun _ _ => Nat.zero_le _) with ⟨h0, hn⟩ | ⟨pre, a, post, e, h0, ha, hn⟩
  · refine .inl ⟨by rw [h0], fun i hi' q => ?_⟩
    exact hn i (by simp [List.mem_range']; omega) (at_one.mpr ⟨hi', q⟩)
  · have ha' := at_one.mp ha
    generalize (forIn (List.range' 0 (hi + 1 - 0)) ((#[] : Array Nat), 0) (StrLaws.occBody x ⟨#[c]⟩ hi 1)).run.fst = arr at h0
    have h1 : arr.toList[0]? = some a := by simpa using h0
    cases hL : arr.toList with
    | nil => rw [hL] at h1; cases h1
    | cons b t =>
      rw [hL] at h1
      simp at h1
      refine .inr ⟨a, t, by rw [h1], ha'.1, ha'.2, fun k hk q => ?_⟩
      exact hn k (StrLaws.range'_split e k hk) (at_one.mpr ⟨by omega, q⟩)
/-- the last place below a bound -/
theorem last_hi (x : Str) (c hi : Nat) : (lastOccurrence x ⟨#[c]⟩ 0 hi = none ∧ ∀ i, i < hi → (cl x)[i]? ≠ some c) ∨
    ∃ i, lastOccurrence x ⟨#[c]⟩ 0 hi = some i ∧ i < hi ∧ (cl x)[i]? = some c ∧ ∀ k, i < k → k < hi → (cl x)[k]? ≠ some c := by
  rw [StrLaws.last_eq]
  have key := StrLaws.last_run x ⟨#[c]⟩ hi (List.range' 0 (hi + 1 - 0)) [] none (fun _ h => nomatch h) (fun _ h => nomatch h) (by simpa using List.pairwise_lt_range' (s := 0) (n := hi + 1 - 0))
  have mem : ∀ i, i < hi → i ∈ [] ++ List.range' 0 (hi + 1 - 0) := fun i h => by simp [List.mem_range']; omega
  cases hr : (forIn (List.range' 0 (hi + 1 - 0)) none (StrLaws.lastBody x ⟨#[c]⟩ hi)).run with
  | none =>
    rw [hr] at key
    exact .inl ⟨rfl, fun i h q => key i (mem i h) (at_one.mpr ⟨h, q⟩)⟩
  | some a =>
    rw [hr] at key
    have ha := at_one.mp key.1
    exact .inr ⟨a, rfl, ha.1, ha.2, fun k hk hlt q => key.2 k (mem k hlt) hk (at_one.mpr ⟨hlt, q⟩)⟩
theorem from_nat (n k : Nat) (h : k ≤ n) : min (fromIndex n (k : Int)) n = k ∧ fromIndex n 0 = 0 := by
  unfold fromIndex
  constructor
  · split <;> omega
  · rfl
section
variable {x : Str} {T M : List Nat} (hx : cl x = T ++ M)
include hx
theorem x_len : x.length = T.length + M.length := by rw [← cl_len, hx, List.length_append]
theorem at_T {i : Nat} (h : i < T.length) : (cl x)[i]? = T[i]? := by rw [hx, List.getElem?_append_left h]
theorem no_T {c i : Nat} (hc : c ∉ T) (h : i < T.length) : (cl x)[i]? ≠ some c := by
  rw [at_T hx h]
  intro q
  exact hc (List.mem_of_getElem? q)
omit hx in
theorem find_none {c hi : Nat} (h : ∀ i, i < hi → (cl x)[i]? ≠ some c) : occurrences x ⟨#[c]⟩ 0 hi 1 = [] := by
  rcases occ_hi x c hi with ⟨e, _⟩ | ⟨i, r, _, h1, h2, _⟩
  · exact e
  · exact absurd h2 (h i h1)
theorem find_here {c hi : Nat} {M' : List Nat} (hc : c ∉ T) (hM : M = c :: M') (h : T.length < hi) : ∃ r, occurrences x ⟨#[c]⟩ 0 hi 1 = T.length :: r := by
  have h0 : (cl x)[T.length]? = some c := by rw [hx, hM]; simp
  rcases occ_hi x c hi with ⟨_, hn⟩ | ⟨i, r, e, h1, h2, h3⟩
  · exact absurd h0 (hn _ h)
  · have : i = T.length := by
      rcases Nat.lt_trichotomy i T.length with q | q | q
      · exact absurd h2 (no_T hx hc q)
      · exact q
      · exact absurd h0 (h3 _ q)
    subst this
    exact ⟨r, e⟩
end
theorem lit_nl : Str.ofString "\n" = (⟨#[10]⟩ : Str) := by decide +kernel
theorem lit_co : Str.ofString ":" = (⟨#[58]⟩ : Str) := by decide +kernel
theorem lit_dot : Str.ofString "." = (⟨#[46]⟩ : Str) := by decide +kernel
theorem find_nl {x : Str} : Txt.find x (Str.ofString "\n") = match occurrences x ⟨#[10]⟩ 0 x.length 1 with | i :: _ => (i : Int) | [] => -1 := by rw [lit_nl]; rfl
theorem find_co {x : Str} {e : Nat} (h : e ≤ x.length) : find4 x (Str.ofString ":") 0 (e : Int) = match occurrences x ⟨#[58]⟩ 0 e 1 with | i :: _ => (i : Int) | [] => -1 := by
  obtain ⟨h1, h2⟩ := from_nat x.length e h
  rw [lit_co]
  unfold find4
  rw [h1, h2] <;> rfl
theorem rfind_dot {x : Str} {e : Nat} (h : e ≤ x.length) : rfind4 x (Str.ofString ".") 0 (e : Int) = match lastOccurrence x ⟨#[46]⟩ 0 e with | some i => (i : Int) | none => -1 := by
  obtain ⟨h1, h2⟩ := from_nat x.length e h
  rw [lit_dot]
  unfold rfind4
  rw [h1, h2] <;> rfl
/-- where the details end: behind T -/
theorem strip_at {x : Str} {T M : List Nat} (hx : cl x = T ++ M) (h10 : 10 ∉ T) (h58 : 58 ∉ T) (hM : M = [] ∨ (∃ M', M = 58 :: M' ∧ 10 ∉ M') ∨ ∃ M', M = 10 :: M') :
    stripF x = Txt.slice x (some (if 0 ≤ rfind4 x (Str.ofString ".") 0 (T.length : Int) then rfind4 x (Str.ofString ".") 0 (T.length : Int) + 1 else 0)) (some (T.length : Int)) := by
  have hl := x_len hx
  have e2 : (if 0 ≤ find4 x (Str.ofString ":") 0 (stripE x) then find4 x (Str.ofString ":") 0 (stripE x) else stripE x) = (T.length : Int) := by
    rcases hM with rfl | ⟨M', rfl, hM'⟩ | ⟨M', rfl⟩
    · have hE : stripE x = ((T.length : Nat) : Int) := by
        unfold stripE
        rw [find_nl, find_none (fun i hi => no_T hx h10 (by simp at hl; omega))]
        simp at hl
        rw [if_neg (by decide), hl]
      rw [hE, find_co (by omega), find_none (fun i hi => no_T hx h58 hi)]
      exact if_neg (by decide)
    · have hE : stripE x = ((x.length : Nat) : Int) := by
        unfold stripE
        rw [find_nl, find_none]
        · exact if_neg (by decide)
        · intro i hi q
          have := List.mem_of_getElem? q
          rw [hx] at this
          rcases List.mem_append.mp this with h | h
          · exact h10 h
          · rcases List.mem_cons.mp h with h | h
            · cases h
            · exact hM' h
      simp only [List.length_cons] at hl
      obtain ⟨r, hr⟩ := find_here (hi := x.length) hx h58 rfl (by omega)
      rw [hE, find_co (Nat.le_refl _), hr]
      exact if_pos (Int.natCast_nonneg _)
    · simp only [List.length_cons] at hl
      have hE : stripE x = ((T.length : Nat) : Int) := by
        unfold stripE
        obtain ⟨r, hr⟩ := find_here (hi := x.length) hx h10 rfl (by omega)
        rw [find_nl, hr]
        exact if_pos (Int.natCast_nonneg _)
      rw [hE, find_co (by omega), find_none (fun i hi => no_T hx h58 hi)]
      exact if_neg (by decide)
  unfold stripF
  simp only [e2]
theorem slice_cl {x : Str} {b e : Nat} (h1 : b ≤ e) (h2 : e ≤ x.length) : cl (Txt.slice x (some (b : Int)) (some (e : Int))) = ((cl x).drop b).take (e - b) := by
  have := eq_of_beq (slice_closesL (x := x) (i := (b : Int)) (j := (e : Int)) (by omega) (by omega) (by omega))
  rw [this]
  show ((cl x).drop _).take _ = _
  have e1 : (b : Int).toNat = b := by omega
  have e3 : ((e : Int) - (b : Int)).toNat = e - b := by omega
  rw [e1, e3]
theorem jl_snoc (c : Nat) (z : List Nat) : ∀ {gs : List (List Nat)}, gs ≠ [] → jl c (gs ++ [z]) = jl c gs ++ c :: z
  | [], h => absurd rfl h
  | [g], _ => rfl
  | g :: g2 :: r, _ => by
    show g ++ c :: jl c ((g2 :: r) ++ [z]) = (g ++ c :: jl c (g2 :: r)) ++ c :: z
    rw [jl_snoc c z (by simp)]
    simp
/-- the last part is what is left -/
theorem strip_last {x : Str} {M : List Nat} {ds : List Str} {z : Str} (hx : cl x = cl (Str.join ⟨#[46]⟩ (ds ++ [z])) ++ M) (h10 : 10 ∉ cl (Str.join ⟨#[46]⟩ (ds ++ [z]))) (h58 : 58 ∉ cl (Str.join ⟨#[46]⟩ (ds ++ [z]))) (h46 : 46 ∉ cl z)
    (hM : M = [] ∨ (∃ M', M = 58 :: M' ∧ 10 ∉ M') ∨ ∃ M', M = 10 :: M') : stripF x = z := by
  rw [strip_at hx h10 h58 hM]
  have hl := x_len hx
  have hT : cl (Str.join ⟨#[46]⟩ (ds ++ [z])) = jl 46 ((ds ++ [z]).map cl) := join_list 46 _
  generalize hTT : cl (Str.join ⟨#[46]⟩ (ds ++ [z])) = T at *
  have hcut : ∃ P, T = P ++ cl z ∧ ((P = [] ) ∨ ∃ P', P = P' ++ [46]) := by
    rw [hT, List.map_append]
    by_cases h : ds = []
    · subst h
      exact ⟨[], rfl, .inl rfl⟩
    · refine ⟨jl 46 (ds.map cl) ++ [46], ?_, .inr ⟨_, rfl⟩⟩
      rw [show [z].map cl = [cl z] from rfl, jl_snoc 46 (cl z) (by simpa using h)]
      simp
  obtain ⟨P, eT, hP⟩ := hcut
  have hzl : ∀ i, P.length ≤ i → i < T.length → (cl x)[i]? ≠ some 46 := by
    intro i h1 h2 q
    rw [at_T hx h2, eT, List.getElem?_append_right h1] at q
    exact h46 (List.mem_of_getElem? q)
  have hTl : T.length = P.length + (cl z).length := by rw [eT, List.length_append]
  have hb : (if 0 ≤ rfind4 x (Str.ofString ".") 0 (T.length : Int) then rfind4 x (Str.ofString ".") 0 (T.length : Int) + 1 else 0) = ((P.length : Nat) : Int) := by
    rw [rfind_dot (by omega)]
    rcases last_hi x 46 T.length with ⟨e, hn⟩ | ⟨i, e, h1, h2, h3⟩
    · rw [e]
      rcases hP with rfl | ⟨P', rfl⟩
      · exact if_neg (by decide)
      · exfalso
        simp only [List.length_append, List.length_cons, List.length_nil] at hTl
        refine hn P'.length (by omega) ?_
        rw [at_T hx (by omega), eT]
        simp
    · rw [e]
      show (if (0 : Int) ≤ (i : Int) then (i : Int) + 1 else 0) = _
      rw [if_pos (by omega)]
      have hlt : i < P.length := by
        by_cases q : P.length ≤ i
        · exact absurd h2 (hzl i q h1)
        · omega
      rcases hP with rfl | ⟨P', rfl⟩
      · simp at hlt
      · simp only [List.length_append, List.length_cons, List.length_nil] at hTl hlt ⊢
        have : i = P'.length := by
          by_cases q : i < P'.length
          · exfalso
            refine h3 P'.length q (by omega) ?_
            rw [at_T hx (by omega), eT]
            simp
          · omega
        omega
  rw [hb]
  apply cl_inj
  rw [slice_cl (by omega) (by omega), hx, eT]
  simp
end Mine
end
section
open PySem PySem.W PyProof.Rows PySem.Calls PySem.NumText
set_option Elab.async false
namespace Mine
def desc : Nat → List Nat
  | 0 => [0]
  | k + 1 => (k + 1) :: desc k
theorem mem_desc : ∀ {k m j : Nat}, j ∈ (desc k).take m ↔ j ≤ k ∧ k < j + m
  | 0, 0, j => by simp
  | 0, m + 1, j => by simp [desc]; omega
  | k + 1, 0, j => by simp
  | k + 1, m + 1, j => by
    have ih := mem_desc (k := k) (m := m) (j := j)
    simp only [desc, List.take_succ_cons, List.mem_cons, ih]
    omega
theorem due_desc (ps : List Str) : ∀ k : Nat, dueL ps k = ((desc k).take 3).map (duePick ps k)
  | 0 => by simp [dueL, dueG, desc]
  | 1 => by simp [dueL, dueG, desc]
  | k + 2 => by
    have e1 : ((k + 2 : Nat) : Int) - 1 = ((k + 1 : Nat) : Int) := by omega
    have e2 : ((k + 2 : Nat) : Int) - 2 = ((k : Nat) : Int) := by omega
    have hn : ∀ a : Nat, (0 : Int) ≤ (a : Int) := fun a => Int.natCast_nonneg a
    simp only [dueL, e1, e2, List.foldl_cons, List.foldl_nil, dueG, hn, if_true, Int.toNat_natCast, List.nil_append, List.cons_append]
    cases k <;> rfl
theorem sound_none {os : List (Option Str)} {k : Nat} (hk : k < os.length) : soundAt os k = true ↔ ∀ j, j ≤ k → k < j + 4 → os.getD j none ≠ none := by
  unfold soundAt
  rw [Bool.not_eq_true', decide_eq_false_iff_not]
  constructor
  · intro h j h1 h2 e
    apply h
    rw [List.mem_iff_getElem?]
    refine ⟨j - (k - 3), ?_⟩
    rw [List.getElem?_take, if_pos (by omega), List.getElem?_drop]
    have e3 : k - 3 + (j - (k - 3)) = j := by omega
    rw [e3]
    rw [List.getD_eq_getElem?_getD, List.getElem?_eq_getElem (by omega)] at e
    rw [List.getElem?_eq_getElem (by omega)]
    exact congrArg some e
  · intro h hm
    obtain ⟨i, hi⟩ := List.mem_iff_getElem?.mp hm
    rw [List.getElem?_take] at hi
    split at hi
    · rename_i hlt
      rw [List.getElem?_drop] at hi
      refine h (k - 3 + i) (by omega) (by omega) ?_
      rw [List.getD_eq_getElem?_getD, hi]; rfl
    · cases hi
theorem sound_get {os : List (Option Str)} {i : Nat} (hi : i < os.length) : (soundL os)[i]? = some (soundAt os i) := by
  unfold soundL
  rw [List.getElem?_map, List.getElem?_range hi]; rfl
theorem sound_len (os : List (Option Str)) : (soundL os).length = os.length := by simp [soundL]
theorem true_mem {os : List (Option Str)} {j k : Nat} (hk : k < os.length) : true ∈ ((soundL os).drop j).take (k + 1 - j) ↔ ∃ i, j ≤ i ∧ i ≤ k ∧ soundAt os i = true := by
  constructor
  · intro h
    obtain ⟨i, hi⟩ := List.mem_iff_getElem?.mp h
    rw [List.getElem?_take] at hi
    split at hi
    · rename_i hlt
      rw [List.getElem?_drop, sound_get (by omega)] at hi
      exact ⟨j + i, by omega, by omega, Option.some.inj hi⟩
    · cases hi
  · rintro ⟨i, h1, h2, h3⟩
    rw [List.mem_iff_getElem?]
    refine ⟨i - j, ?_⟩
    rw [List.getElem?_take, if_pos (by omega), List.getElem?_drop]
    have e3 : j + (i - j) = i := by omega
    rw [e3, sound_get (by omega), h3]
theorem allPlain_map {α : Type} {f : α → Str} {g : α → Option Str} : ∀ (l : List α), (∀ j ∈ l, plainT (f j) = g j) → ((∀ j ∈ l, g j ≠ none) → allPlain (l.map f) = some (l.map fun j => (g j).getD Str.empty)) ∧ ((∃ j ∈ l, g j = none) → allPlain (l.map f) = none)
  | [], _ => ⟨fun _ => rfl, fun ⟨_, h, _⟩ => nomatch h⟩
  | a :: l, h => by
    obtain ⟨i1, i2⟩ := allPlain_map (f := f) (g := g) l fun j hj => h j (.tail _ hj)
    have ha := h a (.head _)
    constructor
    · intro hn
      simp only [List.map_cons, allPlain, ha]
      rw [i1 fun j hj => hn j (.tail _ hj)]
      cases e : g a with
      | none => exact absurd e (hn a (.head _))
      | some y => rfl
    · rintro ⟨j, hj, hjn⟩
      simp only [List.map_cons, allPlain, ha]
      rcases List.mem_cons.mp hj with rfl | hj
      · rw [hjn]; rfl
      · rw [i2 ⟨j, hj, hjn⟩]
        cases g a <;> rfl
theorem good_empty : GoodT Str.empty := fun c hc => absurd hc (by simp [Str.empty])
theorem getD_good {ss : List Str} (h : ∀ p ∈ ss, GoodT p) (k : Nat) : GoodT (ss.getD k Str.empty) := by
  rw [List.getD_eq_getElem?_getD]
  cases e : ss[k]? with
  | none => exact good_empty
  | some p => exact h p (List.mem_of_getElem? e)
section
variable {ps : List Str} (H : Parts ps)
include H
theorem part_ok (j : Nat) : GoodT (ps.getD j Str.empty) ∧ (ps.getD j Str.empty).length ≤ 42 := ⟨getD_good H.good j, getD_mem_or H.len⟩
theorem os_get (j : Nat) (hj : j < ps.length) : (ps.map plainF).getD j none = plainF (ps.getD j Str.empty) := by
  rw [List.getD_eq_getElem?_getD, List.getElem?_map, List.getD_eq_getElem?_getD, List.getElem?_eq_getElem hj]; rfl
theorem os_ok {j : Nat} {y : Str} (h : (ps.map plainF).getD j none = some y) : GoodT y ∧ y.length ≤ 43 ∧ plainF y = some y := by
  by_cases hj : j < ps.length
  · rw [os_get H j hj] at h
    obtain ⟨h1, h2⟩ := part_ok H j
    obtain ⟨h3, h4⟩ := plain_good h1 (by omega) h
    exact ⟨h3, by omega, plain_again h1 (by omega) h⟩
  · rw [List.getD_eq_getElem?_getD, List.getElem?_eq_none (by rw [List.length_map]; omega)] at h
    cases h
theorem pick_ok (k j : Nat) : GoodT (duePick ps k j) ∧ (duePick ps k j).length ≤ 43 := by
  unfold duePick
  split
  · cases e : (ps.map plainF).getD j none with
    | none => exact ⟨good_empty, Nat.zero_le _⟩
    | some y =>
      obtain ⟨h1, h2, _⟩ := os_ok H e
      exact ⟨h1, h2⟩
  · obtain ⟨h1, h2⟩ := part_ok H j
    exact ⟨h1, by omega⟩
theorem p_pick {j k : Nat} (hk : k < ps.length) (hj : j ≤ k) (hj2 : k ≤ j + 2) (h : true ∈ ((soundL (ps.map plainF)).drop j).take (k + 1 - j)) : ∃ y, (ps.map plainF).getD j none = some y := by
  have hk' : k < (ps.map plainF).length := by rw [List.length_map]; exact hk
  obtain ⟨i, h1, h2, h3⟩ := (true_mem hk').mp h
  have := (sound_none (by omega)).mp h3 j h1 (by omega)
  cases e : (ps.map plainF).getD j none with
  | none => exact absurd e this
  | some y => exact ⟨y, rfl⟩
theorem pick_plain {j k : Nat} (hk : k < ps.length) (hj : j ≤ k) (hj2 : k ≤ j + 2) : plainF (duePick ps k j) = (ps.map plainF).getD j none := by
  unfold duePick
  split
  · rename_i h
    obtain ⟨y, e⟩ := p_pick H hk hj hj2 h
    rw [e]
    exact (os_ok H e).2.2
  · exact (os_get H j (by omega)).symm
theorem p_due_ok (i : Nat) : ∀ d ∈ dueL ps i, GoodT d ∧ d.length ≤ 43 := by
  intro d hd
  rw [due_desc] at hd
  obtain ⟨j, _, rfl⟩ := List.mem_map.mp hd
  exact pick_ok H i j
theorem p_due_n (i : Nat) : 0 < (dueL ps i).length ∧ (dueL ps i).length ≤ 3 := by
  rw [due_desc, List.length_map, List.length_take]
  have : 0 < (desc i).length := by cases i <;> simp [desc]
  omega
theorem p_due_len {i : Nat} : ∀ d ∈ dueL ps i, d.length ≤ 100 := fun d hd => by
  have := (p_due_ok H i d hd).2
  omega
theorem build_ok (i : Nat) : GoodT (buildF ps i) ∧ (buildF ps i).length ≤ 42 := by
  unfold buildF
  split
  · exact part_ok H (i + 1)
  · have e : Str.ofString "" = Str.empty := by decide +kernel
    rw [e]
    exact ⟨good_empty, Nat.zero_le _⟩
theorem p_build_len (i : Nat) : (buildF ps i).length ≤ 100 := by
  have := (build_ok H i).2
  omega
theorem handed_ok (i : Nat) : ∀ d ∈ handedL ps i, GoodT d ∧ d.length ≤ 43 := by
  intro d hd
  unfold handedL at hd
  split at hd
  · rcases List.mem_append.mp hd with hd | hd
    · exact p_due_ok H i d hd
    · rw [List.mem_singleton.mp hd]
      have := build_ok H i
      exact ⟨this.1, by omega⟩
  · exact p_due_ok H i d hd
theorem p_bare_len {i : Nat} : ∀ d ∈ (bareL ps i).map (fun o => o.getD Str.empty), d.length ≤ 100 := by
  intro d hd
  unfold bareL at hd
  rw [List.map_map] at hd
  obtain ⟨x, hx, rfl⟩ := List.mem_map.mp hd
  obtain ⟨h1, h2⟩ := handed_ok H i x hx
  show ((plainF x).getD Str.empty).length ≤ 100
  cases e : plainF x with
  | none => exact Nat.zero_le _
  | some y =>
    have := (plain_good h1 (by omega) e).2
    show y.length ≤ 100
    omega
end
/-- a list of good texts, laid together with dots and cut -/
theorem no_dot {x : Str} (h : GoodT x) : 46 ∉ cl x := fun q => by
  have := h 46 q
  unfold goodC at this
  omega
theorem join_dot (hs : List Str) : Txt.join dot hs = Str.join ⟨#[46]⟩ hs := by
  rw [show dot = (⟨#[46]⟩ : Str) from lit_dot]
  exact StrLaws.glued_eq_join _ _
theorem cut_dots {hs : List Str} (hne : hs ≠ []) (hg : ∀ d ∈ hs, GoodT d) : Txt.split (Txt.join dot hs) dot = hs := by
  rw [join_dot, show dot = (⟨#[46]⟩ : Str) from lit_dot]
  exact split_join hne fun g h => no_dot (hg g h)
theorem normL_join {hs : List Str} (hne : hs ≠ []) (hg : ∀ d ∈ hs, GoodT d) : normL (Txt.join dot hs) (Str.ofString "") = hs := by
  unfold normL
  rw [if_pos (by decide +kernel), cut_dots hne hg]
theorem plainT_good {x : Str} (h : GoodT x) (hl : x.length ≤ 4300) : plainT x = plainF x := (plain_is h hl).symm
theorem join_cons (a : Str) {r : List Str} (h : r ≠ []) : Txt.join dot (a :: r) = a ++ dot ++ Txt.join dot r := by
  rw [join_dot, join_dot]
  cases r with
  | nil => exact absurd rfl h
  | cons b r => rw [show dot = (⟨#[46]⟩ : Str) from lit_dot]; rfl
theorem join_one (a : Str) : Txt.join dot [a] = a := by rw [join_dot]; rfl
theorem join_len {hs : List Str} (h : ∀ d ∈ hs, d.length ≤ 43) : (Txt.join dot hs).length ≤ 44 * hs.length := by
  induction hs with
  | nil => rw [join_dot]; exact Nat.zero_le _
  | cons a r ih =>
    have h1 := h a (.head _)
    have h2 := ih fun d hd => h d (.tail _ hd)
    have hd : dot.length = 1 := by decide +kernel
    by_cases e : r = []
    · subst e
      rw [join_one]; simp; omega
    · rw [join_cons a e, Str.length_append, Str.length_append, List.length_cons]
      omega
end Mine
end
section
open PySem PySem.W PyProof.Rows PySem.Calls PySem.NumText
set_option Elab.async false
namespace Mine
/-- what int makes of a list of parts -/
def N3 (hs : List Str) : List Str := ((allPlain hs).getD hs).take 3
theorem norm_join {hs : List Str} (hne : hs ≠ []) (hg : ∀ d ∈ hs, GoodT d) : normF (Txt.join dot hs) (Str.ofString "") = Txt.join dot (N3 hs) := by
  unfold normF N3
  rw [normL_join hne hg]
theorem desc_mem {k j : Nat} (h : j ∈ (desc k).take 3) : j ≤ k ∧ k ≤ j + 2 := by
  have := mem_desc.mp h
  omega
section
variable {ps : List Str} (H : Parts ps)
include H
/-- one turn's parts: the newest ahead, the kept ones behind -/
theorem turn_is {k : Nat} (hk : k < ps.length) {f : Nat → Str} (h0 : f k = ps.getD k Str.empty) (h1 : ∀ j, j < k → f j = duePick ps (k - 1) j) : N3 (((desc k).take 4).map f) = dueL ps k := by
  have hk' : k < (ps.map plainF).length := by rw [List.length_map]; exact hk
  have hgood : ∀ j, j ≤ k → k < j + 4 → plainT (f j) = (ps.map plainF).getD j none := by
    intro j hj hj4
    by_cases e : j = k
    · subst e
      rw [h0, plainT_good (part_ok H j).1 (by have := (part_ok H j).2; omega), os_get H j hk]
    · rw [h1 j (by omega), plainT_good (pick_ok H _ _).1 (by have := (pick_ok H (k - 1) j).2; omega)]
      exact pick_plain H (by omega) (by omega) (by omega)
  obtain ⟨a1, a2⟩ := allPlain_map (f := f) (g := fun j => (ps.map plainF).getD j none) ((desc k).take 4) fun j hj => by
    have := mem_desc.mp hj
    exact hgood j this.1 this.2
  rw [due_desc]
  unfold N3
  by_cases hs : soundAt (ps.map plainF) k = true
  · have hall := (sound_none hk').mp hs
    rw [a1 fun j hj => by
      have := mem_desc.mp hj
      exact hall j this.1 this.2]
    show (List.map _ _).take 3 = _
    rw [← List.map_take, List.take_take]
    refine List.map_congr_left fun j hj => ?_
    have hj := desc_mem hj
    unfold duePick
    rw [if_pos]
    exact (true_mem hk').mpr ⟨k, hj.1, Nat.le_refl _, hs⟩
  · have hno : ∃ j ∈ (desc k).take 4, (ps.map plainF).getD j none = none := by
      apply Classical.byContradiction
      intro hc
      apply hs
      rw [sound_none hk']
      intro j h2 h3 e
      exact hc ⟨j, mem_desc.mpr ⟨h2, h3⟩, e⟩
    rw [a2 hno]
    show (List.map f _).take 3 = _
    rw [← List.map_take, List.take_take]
    refine List.map_congr_left fun j hj => ?_
    have hj := desc_mem hj
    by_cases e : j = k
    · subst e
      rw [h0]
      unfold duePick
      rw [if_neg]
      intro q
      obtain ⟨i, q1, q2, q3⟩ := (true_mem hk').mp q
      have : i = j := by omega
      subst this
      exact hs q3
    · rw [h1 j (by omega)]
      have hlt : k - 1 < (ps.map plainF).length := by omega
      have same : true ∈ ((soundL (ps.map plainF)).drop j).take (k - 1 + 1 - j) ↔ true ∈ ((soundL (ps.map plainF)).drop j).take (k + 1 - j) := by
        rw [true_mem hlt, true_mem hk']
        constructor
        · rintro ⟨i, q1, q2, q3⟩
          exact ⟨i, q1, by omega, q3⟩
        · rintro ⟨i, q1, q2, q3⟩
          refine ⟨i, q1, ?_, q3⟩
          by_cases q : i = k
          · subst q; exact absurd q3 hs
          · omega
      unfold duePick
      by_cases q : true ∈ ((soundL (ps.map plainF)).drop j).take (k + 1 - j)
      · rw [if_pos q, if_pos (same.mpr q)]
      · rw [if_neg q, if_neg fun z => q (same.mp z)]
theorem p_told : ∀ {i : Nat}, i < ps.length → toldF ps (i + 1) = Txt.join dot (dueL ps i)
  | 0, hi => by
    have e : toldF ps (0 + 1) = normF (ps.getD 0 Str.empty) (Str.ofString "") := by rw [toldF, if_neg (by omega)]
    rw [e]
    have h1 := norm_join (hs := [ps.getD 0 Str.empty]) (by simp) (fun d hd => by rw [List.mem_singleton.mp hd]; exact (part_ok H 0).1)
    rw [join_one] at h1
    rw [h1, ← turn_is H hi (f := fun _ => ps.getD 0 Str.empty) rfl (fun j hj => absurd hj (by omega))]
    rfl
  | i + 1, hi => by
    have ih := p_told (i := i) (by omega)
    have e : toldF ps (i + 1 + 1) = normF (ps.getD (i + 1) Str.empty ++ dot ++ toldF ps (i + 1)) (Str.ofString "") := by rw [toldF, if_pos (by omega)]
    have hne : dueL ps i ≠ [] := List.length_pos_iff.mp (p_due_n H i).1
    rw [e, ih, ← join_cons _ hne, norm_join (by simp) (fun d hd => by
      rcases List.mem_cons.mp hd with rfl | hd
      · exact (part_ok H _).1
      · exact (p_due_ok H i d hd).1)]
    rw [← turn_is H hi (f := fun j => if j = i + 1 then ps.getD (i + 1) Str.empty else duePick ps i j) (by rw [if_pos rfl]) (fun j hj => by rw [if_neg (by omega)]; rfl)]
    congr 2
    rw [due_desc]
    show _ = (if i + 1 = i + 1 then _ else _) :: ((desc i).take 3).map _
    rw [if_pos rfl]
    congr 1
    refine List.map_congr_left fun j hj => ?_
    have := desc_mem hj
    rw [if_neg (by omega)]
theorem p_told_len {i : Nat} (hi : i ≤ ps.length) : (toldF ps i).length ≤ 200 := by
  cases i with
  | zero =>
    show (Str.ofString "").length ≤ 200
    decide +kernel
  | succ i =>
    rw [p_told H (by omega)]
    have h1 := join_len fun d hd => (p_due_ok H i d hd).2
    have h2 := (p_due_n H i).2
    omega
theorem p_fit0 (i : Nat) : (ps.getD i Str.empty).length ≤ 300 ∧ ∀ p ∈ normL (ps.getD i Str.empty) (Str.ofString ""), Fit p := by
  obtain ⟨h1, h2⟩ := part_ok H i
  refine ⟨by omega, fun p hp => ?_⟩
  have := normL_join (hs := [ps.getD i Str.empty]) (by simp) (fun d hd => by rw [List.mem_singleton.mp hd]; exact h1)
  rw [join_one] at this
  rw [this, List.mem_singleton] at hp
  subst hp
  exact fit_good h1 (by omega)
theorem p_fit1 {i : Nat} (hi : i < ps.length) : (ps.getD i Str.empty ++ dot ++ toldF ps i).length ≤ 300 ∧ ∀ p ∈ normL (ps.getD i Str.empty ++ dot ++ toldF ps i) (Str.ofString ""), Fit p := by
  obtain ⟨h1, h2⟩ := part_ok H i
  have hd : dot.length = 1 := by decide +kernel
  have ht := p_told_len H (i := i) (by omega)
  refine ⟨by rw [Str.length_append, Str.length_append]; omega, fun p hp => ?_⟩
  obtain ⟨r, hr, er, hrg⟩ : ∃ r : List Str, r ≠ [] ∧ toldF ps i = Txt.join dot r ∧ ∀ d ∈ r, GoodT d ∧ d.length ≤ 43 := by
    cases i with
    | zero =>
      refine ⟨[Str.empty], by simp, ?_, fun d hd => by rw [List.mem_singleton.mp hd]; exact ⟨good_empty, Nat.zero_le _⟩⟩
      rw [join_one]
      show Str.ofString "" = Str.empty
      decide +kernel
    | succ i => exact ⟨dueL ps i, List.length_pos_iff.mp (p_due_n H i).1, p_told H (by omega), p_due_ok H i⟩
  rw [er, ← join_cons _ hr, normL_join (by simp) (fun d hd => by
      rcases List.mem_cons.mp hd with rfl | hd
      · exact h1
      · exact (hrg d hd).1)] at hp
  rcases List.mem_cons.mp hp with rfl | hp
  · exact fit_good h1 (by omega)
  · exact fit_good (hrg p hp).1 (by have := (hrg p hp).2; omega)
theorem norm_handed {i : Nat} (hi : i < ps.length) : normL (toldF ps (i + 1)) (buildF ps i) = handedL ps i := by
  have hne : dueL ps i ≠ [] := List.length_pos_iff.mp (p_due_n H i).1
  have hb : (buildF ps i != Str.ofString "") = !decide ((buildF ps i).length = 0) := by
    unfold bne
    rw [empty_beq]
    congr 1
    rw [← cl_len]
    cases cl (buildF ps i) <;> simp
  unfold normL handedL
  rw [p_told H hi, cut_dots hne fun d hd => (p_due_ok H i d hd).1, hb]
  by_cases e : (buildF ps i).length = 0
  · rw [if_pos e]; simp [e]
  · rw [if_neg e]; simp [e]
theorem p_fit2 {i : Nat} (hi : i < ps.length) : ∀ p ∈ normL (toldF ps (i + 1)) (buildF ps i), Fit p := by
  intro p hp
  rw [norm_handed H hi] at hp
  obtain ⟨h1, h2⟩ := handed_ok H i p hp
  exact fit_good h1 (by omega)
theorem handed_plain (i : Nat) : ((∀ d ∈ handedL ps i, plainF d ≠ none) → allPlain ((handedL ps i).map _root_.id) = some ((handedL ps i).map fun d => (plainF d).getD Str.empty)) ∧ ((∃ d ∈ handedL ps i, plainF d = none) → allPlain ((handedL ps i).map _root_.id) = none) :=
  allPlain_map (f := _root_.id) (g := plainF) (handedL ps i) fun d hd => by
    obtain ⟨h1, h2⟩ := handed_ok H i d hd
    show plainT d = plainF d
    exact plainT_good h1 (by omega)
theorem p_norm_none {i : Nat} (hi : i < ps.length) (h : none ∈ bareL ps i) : normF (toldF ps (i + 1)) (buildF ps i) = Txt.join dot ((handedL ps i).take 3) := by
  have h2 := (handed_plain H i).2 (by
    obtain ⟨d, hd, e⟩ := List.mem_map.mp h
    exact ⟨d, hd, e⟩)
  rw [List.map_id] at h2
  unfold normF
  rw [norm_handed H hi, h2]; rfl
theorem p_norm_some {i : Nat} (hi : i < ps.length) (h : none ∉ bareL ps i) : normF (toldF ps (i + 1)) (buildF ps i) = Txt.join dot (((bareL ps i).map fun o => o.getD Str.empty).take 3) := by
  have h2 := (handed_plain H i).1 (fun d hd e => h (List.mem_map.mpr ⟨d, hd, e⟩))
  rw [List.map_id] at h2
  unfold normF
  rw [norm_handed H hi, h2]
  unfold bareL
  rw [List.map_map]; rfl
theorem p_strip {i : Nat} (hi : i < ps.length) {msg : Str} (hm : msg ∈ msgs) : stripF (toldF ps (i + 1) ++ msg) = (dueL ps i).getD ((dueL ps i).length - 1) Str.empty := by
  have hn := p_due_n H i
  have hok := p_due_ok H i
  have hne : dueL ps i ≠ [] := List.length_pos_iff.mp hn.1
  rw [p_told H hi, join_dot]
  have e := List.dropLast_concat_getLast hne
  have hz : (dueL ps i).getD ((dueL ps i).length - 1) Str.empty = (dueL ps i).getLast hne := by
    rw [List.getD_eq_getElem?_getD, List.getElem?_eq_getElem (by omega), List.getLast_eq_getElem]; rfl
  rw [hz]
  generalize (dueL ps i).getLast hne = z at e
  generalize (dueL ps i).dropLast = ds at e
  rw [← e] at hok
  rw [← e]
  have hfree : ∀ c, ¬ goodC c → c ≠ 46 → c ∉ cl (Str.join ⟨#[46]⟩ (ds ++ [z])) := by
    intro c hc h46 q
    rw [join_list] at q
    have key : ∀ gs : List (List Nat), (∀ g ∈ gs, ∀ d ∈ g, goodC d) → c ∉ jl 46 gs := by
      intro gs
      induction gs with
      | nil => intro _ q; cases q
      | cons g r ih =>
        intro hg q
        obtain ⟨t, et, kt⟩ := jl_cons 46 g r
        rw [et] at q
        rcases List.mem_append.mp q with q | q
        · exact hc (hg g (.head _) c q)
        · rcases kt with ⟨_, rfl⟩ | ⟨_, rfl⟩
          · cases q
          · rcases List.mem_cons.mp q with q | q
            · exact h46 q
            · exact ih (fun g hg' => hg g (.tail _ hg')) q
    refine key _ ?_ q
    intro g hg d hd
    obtain ⟨x, hx, rfl⟩ := List.mem_map.mp hg
    exact (hok x hx).1 d hd
  refine strip_last (M := cl msg) (cl_append _ _) (hfree 10 (by unfold goodC; omega) (by omega)) (hfree 58 (by unfold goodC; omega) (by omega)) (no_dot (hok z (by simp)).1) ?_
  have hms : ∀ m ∈ msgs, cl m = [] ∨ (∃ M', cl m = 58 :: M' ∧ 10 ∉ M') ∨ ∃ M', cl m = 10 :: M' := by
    intro m hm
    simp only [msgs, List.mem_cons, List.not_mem_nil, or_false] at hm
    rcases hm with rfl | rfl | rfl | rfl | rfl
    · exact .inl (by decide +kernel)
    · exact .inr (.inl ⟨[], by decide +kernel, by simp⟩)
    · exact .inr (.inr ⟨[], by decide +kernel⟩)
    · exact .inr (.inl ⟨[32, 49, 46, 57], by decide +kernel, by simp⟩)
    · exact .inr (.inr ⟨[46, 97, 58, 98], by decide +kernel⟩)
  exact hms msg hm
end
/-- the law's rows -/
def goodB (c : Nat) : Bool := c == 9 || c == 32 || c == 43 || c == 45 || (48 ≤ c && c ≤ 57) || c == 95 || c == 120
theorem good_of {x : Str} (h : (cl x).all goodB = true) : GoodT x := by
  intro c hc
  have := List.all_eq_true.mp h c hc
  simp [goodB] at this
  unfold goodC
  omega
theorem good_append {x y : Str} (hx : GoodT x) (hy : GoodT y) : GoodT (x ++ y) := by
  intro c hc
  have hc : c ∈ cl (x ++ y) := hc
  rw [cl_append] at hc
  rcases List.mem_append.mp hc with hc | hc
  · exact hx c hc
  · exact hy c hc
theorem fig_good (x : Int) : GoodT (figF x) := by
  have h : ∀ k : Fin 10, (cl (Txt.item (Str.ofString "0123456789") (k.val : Int))).all goodB = true := by decide +kernel
  have e := Int.fmod_eq_emod_of_nonneg (x.fdiv 16) (b := 10) (by decide)
  have h0 : 0 ≤ (x.fdiv 16).fmod 10 ∧ (x.fdiv 16).fmod 10 < 10 := by rw [e]; omega
  have := h ⟨((x.fdiv 16).fmod 10).toNat, by omega⟩
  rw [show (((⟨((x.fdiv 16).fmod 10).toNat, by omega⟩ : Fin 10).val : Nat) : Int) = (x.fdiv 16).fmod 10 from by show (((x.fdiv 16).fmod 10).toNat : Int) = _; omega] at this
  exact good_of this
theorem piece_good (x : Int) : GoodT (pieceF x) := by
  have hf := fig_good x
  have l0 : GoodT (Str.ofString "") := good_of (by decide +kernel)
  have l1 : GoodT (Str.ofString "0") := good_of (by decide +kernel)
  have l2 : GoodT (Str.ofString "-") := good_of (by decide +kernel)
  have l3 : GoodT (Str.ofString " ") := good_of (by decide +kernel)
  have l4 : GoodT (Str.ofString "1_") := good_of (by decide +kernel)
  have l5 : GoodT (Str.ofString "x") := good_of (by decide +kernel)
  have l6 : GoodT (Str.ofString "_") := good_of (by decide +kernel)
  have l7 : GoodT (Str.ofString "+") := good_of (by decide +kernel)
  have l8 : GoodT (Str.ofString "\t") := good_of (by decide +kernel)
  have hall : ∀ p ∈ piecesF x, GoodT p := by
    intro p hp
    simp only [piecesF, List.cons_append, List.nil_append, List.mem_cons, List.not_mem_nil, or_false] at hp
    rcases hp with h | h | h | h | h | h | h | h | h | h | h | h | h | h | h | h <;> subst h <;> first | assumption | exact good_append (by assumption) hf
  unfold pieceF
  exact getD_good hall _
theorem row_good (ns : List Int) : ∀ p ∈ rowF ns, GoodT p := by
  induction ns using rev_ind with
  | nil => intro p hp; exact absurd hp (by simp [rowF])
  | snoc l a ih =>
    intro p hp
    rw [rowF_snoc] at hp
    have h2 : ∀ q ∈ rowOpen (rowF l) a, GoodT q := by
      intro q hq
      unfold rowOpen at hq
      split at hq
      · rcases List.mem_append.mp hq with hq | hq
        · exact ih q hq
        · rw [List.mem_singleton.mp hq]; exact good_of (by decide +kernel)
      · exact ih q hq
    unfold rowStep rowLay at hp
    rcases List.mem_or_eq_of_mem_set hp with hp | rfl
    · exact h2 p hp
    · exact good_append (getD_good h2 _) (piece_good a)
theorem p_row {ds : List Int} {f : Int → Int} (h : 0 < ds.length ∧ ds.length ≤ 14) : Parts (rowF (ds.map f)) := ⟨row_good _, row_le h, row_n h⟩
end Mine
end
section
open PySem PySem.W PyProof.Rows PySem.Calls
set_option Elab.async false
namespace Mine
section
variable {prog : Program} {w : World} {A : Around} {E : Value → Shared → Prop} {s : Shared} {h₀ : Heap} {L D : Addr} {m : Str → Option Value} {news : List (Addr × Obj)}
theorem addStrs_K {a b : Addr} {vs ws : List Value} {na nb : Nat} {xs ys : List Str} {Q : Value → Shared → Prop} (F : Fr h₀ L s.heap m) (N : News h₀ L s.heap news) (ha : (a, listOf vs.toArray na) ∈ news) (hb : (b, listOf ws.toArray nb) ∈ news)
    (hS : StrsAre vs xs) (hT : StrsAre ws ys) (hz : xs.length + ys.length ≤ 1000)
    (h : ∀ D h', Fr h₀ L h' m → News h₀ L h' ((D, listOf (vs ++ ws).toArray 0) :: news) → StrsAre (vs ++ ws) (xs ++ ys) → Q (.ref D) { s with heap := h' }) : wpAny (model prog w) A (binaryOp .Add (.ref a) (.ref b)) Q E s := by
  refine add_arrays F N (news_isList N ha) (news_isList N hb) (fun h' F' N' => h _ h' F' N' (hS.append' hT)) ?_
  rw [List.size_toArray, List.size_toArray, hS.length, hT.length, sizeLine_eq]; omega
end
theorem bne_absurd {a b : Str} (h : (a != b) = true) (e : a = b) : False := by
  subst e
  simp at h
theorem succ_cast (i : Nat) : (i : Int) + 1 = ((i + 1 : Nat) : Int) := by omega
theorem build_yes {ps : List Str} {i : Nat} (h : i + 1 < ps.length) : ps.getD (i + 1) Str.empty = buildF ps i := by rw [buildF, if_pos h]
theorem build_no {ps : List Str} {i : Nat} (h : ¬ i + 1 < ps.length) : Str.ofString "" = buildF ps i := by rw [buildF, if_neg h]
theorem handed_yes {ps : List Str} {i : Nat} (h : (buildF ps i != Str.ofString "") = true) : dueL ps i ++ [buildF ps i] = handedL ps i := by rw [handedL, if_pos h]
theorem handed_no {ps : List Str} {i : Nat} (h : (buildF ps i != Str.ofString "") = false) : dueL ps i = handedL ps i := by rw [handedL, if_neg (by rw [h]; decide)]
theorem strs_eq {vs : List Value} {a b : List Str} (h : StrsAre vs a) (e : a = b) : StrsAre vs b := e ▸ h
theorem sum_le {ys : List Str} (h : ∀ y ∈ ys, y.length ≤ 100) (hn : ys.length ≤ 3) : (ys.map (·.length)).sum + ys.length * (Str.ofString ".").length ≤ 16777216 := by
  have hd : (Str.ofString ".").length = 1 := by decide +kernel
  have key : ∀ l : List Str, (∀ y ∈ l, y.length ≤ 100) → (l.map (·.length)).sum ≤ 100 * l.length := by
    intro l
    induction l with
    | nil => intro _; simp
    | cons a r ih =>
      intro hl
      have h1 := ih fun y hy => hl y (.tail _ hy)
      have h2 := hl a (.head _)
      simp only [List.map_cons, List.sum_cons, List.length_cons]
      omega
  have h1 := key ys h
  rw [hd]
  omega
theorem take_le {ys : List Str} (h : ∀ y ∈ ys, y.length ≤ 100) : ∀ y ∈ ys.take 3, y.length ≤ 100 := fun y hy => h y (List.mem_of_mem_take hy)
theorem take_n {α : Type} (ys : List α) : (ys.take 3).length ≤ 3 := by rw [List.length_take]; omega
theorem opts_take3 {vs : List Value} {os : List (Option Str)} (h : OptsAre vs os) (hn : none ∉ os) : StrsAre (vs.take 3) ((os.map fun o => o.getD Str.empty).take 3) := by
  have := strs_of_opts (h.take 3) (fun q => hn (List.mem_of_mem_take q))
  rwa [List.map_take] at this
theorem msg_len {msg : Str} (h : msg ∈ msgs) : msg.length ≤ 300 := by
  have : ∀ x ∈ msgs, x.length ≤ 300 := by decide +kernel
  exact this msg h
section
variable {ps : List Str} (H : Parts ps)
include H
theorem p_handed_len {i : Nat} : ∀ d ∈ handedL ps i, d.length ≤ 100 := by
  intro d hd
  unfold handedL at hd
  split at hd
  · rcases List.mem_append.mp hd with hd | hd
    · exact p_due_len H d hd
    · rw [List.mem_singleton.mp hd]; exact p_build_len H i
  · exact p_due_len H d hd
theorem p_handed_n (i : Nat) : (handedL ps i).length ≤ 4 := by
  have := (p_due_n H i).2
  unfold handedL
  split
  · rw [List.length_append]; simp only [List.length_cons, List.length_nil]; omega
  · omega
end
end Mine
end
section
open PySem PySem.W PyProof.Rows PySem.Calls
set_option Elab.async false
namespace Mine
theorem told_pos {ps : List Str} {i : Nat} (h : 0 < (i : Int)) : normF (ps.getD i Str.empty ++ Str.ofString "." ++ toldF ps i) (Str.ofString "") = toldF ps (i + 1) := by
  rw [toldF, if_pos (by omega)]
theorem told_zero {ps : List Str} {i : Nat} (h : ¬ 0 < (i : Int)) : normF (ps.getD i Str.empty) (Str.ofString "") = toldF ps (i + 1) := by
  rw [toldF, if_neg (by omega)]
theorem three_src {a b c : Int} {ta tb tc : Tok} : ∀ i v, i < 3 → (#[Value.int a ta, Value.int b tb, Value.int c tc] : Array Value)[i]? = some v → ∃ k t, ([a, b, c] : List Int)[i]? = some k ∧ v = .int k t := by
  intro i v hi hv
  match i, hi with
  | 0, _ => exact ⟨a, ta, rfl, by simpa using hv.symm⟩
  | 1, _ => exact ⟨b, tb, rfl, by simpa using hv.symm⟩
  | 2, _ => exact ⟨c, tc, rfl, by simpa using hv.symm⟩
theorem three_le {k a : Int} (h : k ∈ [a, a - 1, a - 2]) : k ≤ a := by
  simp only [List.mem_cons, List.not_mem_nil, or_false] at h
  omega
section
variable {ps : List Str} {i : Nat} {k : Int} {l : List Str}
theorem due_yes {y : Str} (h0 : 0 ≤ k) (ht : true ∈ ((soundL (ps.map plainF)).drop k.toNat).take (i + 1 - k.toNat)) (hy : (ps.map plainF).getD k.toNat none = some y) : dueG ps i l k = l ++ [y] := by
  rw [dueG, if_pos h0, duePick, if_pos ht, hy]; rfl
theorem due_no (h0 : 0 ≤ k) (ht : ¬ true ∈ ((soundL (ps.map plainF)).drop k.toNat).take (i + 1 - k.toNat)) : dueG ps i l k = l ++ [ps.getD k.toNat Str.empty] := by
  rw [dueG, if_pos h0, duePick, if_neg ht]
theorem due_skip (h0 : ¬ 0 ≤ k) : dueG ps i l k = l := by rw [dueG, if_neg h0]
end
theorem due_z {ps : List Str} (H : Parts ps) (i : Nat) : (dueL ps i).length ≤ sizeLine := by
  have := (p_due_n H i).2
  rw [sizeLine_eq]; omega
theorem three_ge {k a : Int} (h : k ∈ [a, a - 1, a - 2]) : a ≤ k + 2 := by
  simp only [List.mem_cons, List.not_mem_nil, or_false] at h
  omega
theorem to_le {k : Int} {i : Nat} (h : k ≤ (i : Int)) : k.toNat ≤ i := by omega
theorem to_ge {k : Int} {i : Nat} (h : (i : Int) ≤ k + 2) : i ≤ k.toNat + 2 := by omega
theorem max3_cast (i : Nat) : (if (i : Int) - 3 > 0 then (i : Int) - 3 else 0) = ((i - 3 : Nat) : Int) := by split <;> omega
theorem map_z {ps : List Str} (h : ps.length ≤ 14) : (ps.map plainF).length ≤ 1000 := by rw [List.length_map]; omega
theorem map_lt {ps : List Str} {j i : Nat} (h : j ≤ i) (hi : i < ps.length) : j < (ps.map plainF).length := by rw [List.length_map]; omega
theorem le_1000 {n : Nat} (h : n ≤ 14) : n ≤ 1000 := by omega
theorem dot_eq : Str.ofString "." = dot := rfl
theorem cat_size1 {x y : Str} (hx : x.length ≤ 300) (hy : y.length ≤ 300) : x.length + y.length ≤ sizeLine := by rw [sizeLine_eq]; omega
theorem dot_len : (Str.ofString ".").length ≤ 300 := by decide +kernel
section
variable {prog : Program} {w : World} {A : Around} {E : Value → Shared → Prop} {s : Shared} {h₀ : Heap} {L D : Addr} {m : Str → Option Value} {news : List (Addr × Obj)}
theorem itemStrN_K {value slice : PySem.Expr} {vs : List Value} {n : Nat} {ss : List Str} {k : Int} {i : Nat} {u : Tok} {Q : Value → Shared → Prop} (N : News h₀ L s.heap news) (hm : (D, listOf vs.toArray n) ∈ news)
    (hS : StrsAre vs ss) (hk : k = (i : Int)) (hi : i < ss.length) (hz : ss.length ≤ 1000) (h : ∀ t, Q (.str (ss.getD i Str.empty) t) s)
    (hs : subscripted slice false (.ref D) (.int k u) = operate [.ref D, .int k u] (getItem (.ref D) (.int k u)) := by with_unfolding_all rfl) :
    wpAny (model prog w) A (subscriptTail value slice (.ref D) (.int k u)) Q E s := by
  subst hk
  refine itemStr_K N hm (by simpa using hS) (by omega) (by omega) (by rw [sizeLine_eq]; omega) (fun t => ?_) hs
  have := h t
  simpa using this
theorem itemOptN_K {value slice : PySem.Expr} {vs : List Value} {n : Nat} {os : List (Option Str)} {k : Int} {i : Nat} {u : Tok} {Q : Value → Shared → Prop} (N : News h₀ L s.heap news) (hm : (D, listOf vs.toArray n) ∈ news)
    (hS : OptsAre vs os) (hk : k = (i : Int)) (hi : i < os.length) (hz : os.length ≤ 1000) (hy : ∃ y, os.getD i none = some y) (h : ∀ y t, os.getD i none = some y → Q (.str y t) s)
    (hs : subscripted slice false (.ref D) (.int k u) = operate [.ref D, .int k u] (getItem (.ref D) (.int k u)) := by with_unfolding_all rfl) :
    wpAny (model prog w) A (subscriptTail value slice (.ref D) (.int k u)) Q E s := by
  subst hk
  obtain ⟨y, hy⟩ := hy
  have hl := news_isList N hm
  have e : os[i]? = some (some y) := by
    rw [List.getD_eq_getElem?_getD, List.getElem?_eq_getElem hi] at hy
    rw [List.getElem?_eq_getElem hi]
    exact congrArg some hy
  obtain ⟨v, hv, t, rfl⟩ := hS.get e
  exact tail_any hl.typeIs slot_list_getitem.lookup (wpAny_getItem_list hl (by omega) (by omega) (by rw [List.getElem?_toArray]; simpa using hv) (h y t hy)) hs
end
end Mine
end
section
open PySem PySem.W PyProof.Rows PySem.Calls
set_option Elab.async false
namespace Mine
set_option pp.maxSteps 400000
set_option pp.deepTerms false
set_option pp.deepTerms.threshold 6
local macro_rules | `(tactic| walk_at "CutNext") => `(tactic| (refine held ?_))
local macro_rules | `(tactic| walk_at "call ref") => `(tactic| (k_here; (with_reducible show wpAny _ _ (call (Value.ref 43) [Value.ref _]) _ _ _); first
  | (k_dflt (refine' row_c ?B ?F ?X ?N ?T ?hk ?dp ?un ?hI ?hl ?_; (case F => k_asm); (case N => k_asm); (case X => k_asm); (case T => k_asm); (case B => k_asm); (case hk => first | exact rfl | assumption); (case dp => ktr_room); (case un => ktr_units); (case hI => with_reducible assumption); (case hl => exact map_len14 (by with_reducible assumption)); k_whole; intro l9 h9 tk9 vs9 n9 F9 N9 lt9 S9; have lt9 := allLt_of lt9; (try simp only [AllLt, and_true] at lt9); (try dsimp only); (try k_fold)))
  | refine held ?_))
local macro_rules | `(tactic| walk_at "eval ListComp") => `(tactic| (k_here; k_dflt (refine LCg.ListComp_U (F₀ := by k_asm) (by with_unfolding_all rfl) (by decide) (by rfl) (by decide) (by rfl) ?_)))
local macro_rules | `(tactic| walk_at "call builtin:str.join") => `(tactic| (k_here; k_dflt (refine' joinK ?N ?b ?S ?z ?_; (case N => k_asm); (case b => k_mem); (case S => first | with_reducible assumption | exact strs_take3 (by with_reducible assumption) | exact opts_take3 (by with_reducible assumption) (by with_reducible assumption)); (case z => first | exact sum_le (p_due_len (by with_reducible assumption)) (p_due_n (by with_reducible assumption) _).2 | exact sum_le (take_le (p_handed_len (by with_reducible assumption))) (take_n _) | exact sum_le (take_le (p_bare_len (by with_reducible assumption))) (take_n _)); intro tj' kj'; (try dsimp only))))
local macro_rules | `(tactic| walk_at "call ref") => `(tactic| (k_here; (with_reducible show wpAny _ _ (call (Value.ref 29) [Value.str _ _]) _ _ _); first
  | (k_dflt (refine' Ctr.use (strip_c _ _ ?hx) ?B ?F ?X ?N ?T ?hk ?dp ?un ?_; (case F => k_asm); (case N => k_asm); (case X => k_asm); (case T => k_asm); (case B => k_asm); (case hk => first | exact rfl | assumption); (case dp => ktr_room); (case un => ktr_units); (case hx => (rw [Str.length_append]; omega)); k_whole; intro t9 h9 tk9 F9 N9; (try dsimp only); (try k_fold)))
  | refine held ?_))
local macro_rules | `(tactic| walk_at "subscriptTail Name UnaryOp ref int") => `(tactic| (k_here; (with_reducible show wpAny _ _ (subscriptTail _ _ (Value.ref _) (Value.int _ _)) _ _ _); k_dflt (refine' getLast_K ?N ?b ?S ?k0 ?z ?_ ?w; (case N => k_asm); (case b => k_mem); (case S => with_reducible assumption); (case k0 => exact (p_due_n (by with_reducible assumption) _).1); (case z => exact due_z (by with_reducible assumption) _); (case w => with_unfolding_all rfl); k_whole; intro t'; (try dsimp only))))
local macro_rules | `(tactic| walk_at "subscriptTail Name BinOp ref int") => `(tactic| (k_here; (with_reducible show wpAny _ _ (subscriptTail _ _ (Value.ref _) (Value.int _ _)) _ _ _); k_dflt (refine' itemStrN_K ?N ?b ?S ?k0 ?k1 ?z ?_ ?w; (case N => k_asm); (case b => k_mem); (case S => with_reducible assumption); (case k0 => exact succ_cast _); (case k1 => omega); (case z => omega); (case w => with_unfolding_all rfl); k_whole; intro t'; (try dsimp only))))
local macro_rules | `(tactic| walk_at "binaryOp Add ref ref") => `(tactic| (k_here; (with_reducible show wpAny _ _ (binaryOp _ (Value.ref _) (Value.ref _)) _ _ _); k_dflt (refine' addStrs_K ?F ?N ?a ?b ?S ?T ?z ?_; (case F => k_asm); (case N => k_asm); (case a => k_mem); (case b => k_mem); (case S => with_reducible assumption); (case T => exact .cons _ _ .nil); (case z => (simp only [List.length_cons, List.length_nil]; omega)); k_whole; intro D' h' F' N' S'; (try dsimp only))))
local macro_rules | `(tactic| walk_at "compareOp In none ref") => `(tactic| (k_here; (with_reducible show wpAny _ _ (compareOp CmpOp.In Value.none (Value.ref _)) _ _ _); k_dflt (refine in_none (by k_asm) (by k_mem) (by with_reducible assumption) ?_)))
local macro_rules | `(tactic| walk_at "subscriptTail Name Slice ref ref") => `(tactic| (k_here; (with_reducible show wpAny _ _ (subscriptTail _ (PySem.Expr.Slice none _ none _) (Value.ref _) (Value.ref _)) _ _ _); k_dflt (refine' sliceUpto_K (b := 3) ?F ?N ?b ?p ?_ ?w ?t ?z; (case F => k_asm); (case N => k_asm); (case b => k_mem); (case p => exact IsPart.int _ _); (case w => with_unfolding_all rfl); (case t => (intro _; with_unfolding_all rfl)); (case z => with_reducible assumption); k_whole; intro D3' h3' F3' N3' l3'; (try dsimp only))))
local macro_rules | `(tactic| walk_at "call ref") => `(tactic| (k_here; (with_reducible show wpAny _ _ (call (Value.ref 22) [Value.str _ _, Value.str _ _]) _ _ _); first
  | (k_dflt (refine' norm_c ?F ?X ?N ?T ?hk ?dp ?un ?hl ?hl2 ?hf ?_; (case F => k_asm); (case N => k_asm); (case X => k_asm); (case T => k_asm); (case hk => first | exact rfl | assumption); (case dp => ktr_room); (case un => ktr_units); (case hl => with_reducible assumption); (case hl2 => with_reducible assumption); (case hf => with_reducible assumption); k_whole; intro t9 h9 tk9 F9 N9; (try dsimp only); (try k_fold)))
  | refine held ?_))
local macro_rules | `(tactic| walk_at "exec Assign cons ListComp") => `(tactic| (k_here; (with_reducible show wpAny _ _ (exec (Stmt.Assign _ (Expr.ListComp _ [⟨_, _, [_], _⟩] _ _) _) _) _ _ _); k_dflt (refine LCt.Assign_ListComp_T (F₀ := by k_asm) (by rfl) (by with_unfolding_all rfl) (by with_unfolding_all rfl) (by decide) (by rfl) (by decide) (by rfl) (by rfl) (by rfl) ?_)))
local macro_rules | `(tactic| walk_at "exec Assign cons ListComp") => `(tactic| (k_here; (with_reducible show wpAny _ _ (exec (Stmt.Assign _ (Expr.ListComp _ [⟨_, _, [], _⟩] _ _) _) _) _ _ _); k_dflt (refine LCg.Assign_ListComp_U (F₀ := by k_asm) (by rfl) (by with_unfolding_all rfl) (by with_unfolding_all rfl) (by decide) (by rfl) (by decide) (by rfl) (by rfl) (by rfl) ?_)))
local macro_rules | `(tactic| walk_at "CompSrcT") => `(tactic| (k_here; k_dflt (refine LCt.CompSrcT.ledger (by rfl) (by k_asm) (by k_asm) (by k_mem) (by exact Nat.le_of_ble_eq_true rfl) ?_; intro gZ; refine held ?_)))
local macro_rules | `(tactic| walk_at "CompSrc") => `(tactic| (k_here; k_dflt (first
  | (refine LCg.CompSrc.ledger (by rfl) (by k_asm) (by k_asm) (by k_mem) (by with_reducible assumption) ?_; intro gZ; refine held ?_)
  | (refine LCg.CompSrc.range (by rfl) (by k_asm) (by k_asm) (by assumption) (by exact small_one (by omega) (by omega) (by omega) (by omega)) (by first | exact rangeSize_nat _ _ | rfl) (by rw [PySem.sizeLine_eq]; omega) ?_; intro gZ; refine held ?_))))
local macro_rules | `(tactic| walk_at "subscriptTail Name Slice ref ref") => `(tactic| (k_here; (with_reducible show wpAny _ _ (subscriptTail _ (PySem.Expr.Slice (some _) _ none _) (Value.ref _) (Value.ref _)) _ _ _); refine held ?_))
local macro_rules | `(tactic| walk_at "compareOp NotIn none ref") => `(tactic| (k_here; (with_reducible show wpAny _ _ (compareOp CmpOp.NotIn Value.none (Value.ref _)) _ _ _); k_dflt (refine notIn_none (by k_asm) (by k_mem) (by with_reducible assumption) ?_)))
local macro_rules | `(tactic| walk_at "call ref") => `(tactic| (k_here; (with_reducible show wpAny _ _ (call (Value.ref 48) [Value.str _ _]) _ _ _); first
  | (k_dflt (refine' plain_c ?B ?F ?X ?N ?T ?hk ?dp ?un ?hl ?_; (case F => k_asm); (case N => k_asm); (case X => k_asm); (case T => k_asm); (case B => k_asm); (case hk => first | exact rfl | assumption); (case dp => ktr_room); (case un => ktr_units); (case hl => with_reducible assumption); k_whole; intro h9 tk9 t9 F9 N9; (try dsimp only); (try k_fold)))
  | refine held ?_))
local macro_rules | `(tactic| walk_at "CompEnd") => `(tactic| (with_unfolding_all (refine kd_end (by with_reducible assumption) (by with_reducible assumption) (by kcf_all) (by first | with_reducible assumption | (simp only [LCg.Off3, and_true]; done) | (simp only [LCg.Off3, and_true]; with_reducible assumption)) (by first | lcg_src | assumption) (by first | exact optIs_match | exact rfl))))
local macro_rules | `(tactic| walk_at "exec For Name Call cons nil") => `(tactic| (refine held ?_))
local macro_rules | `(tactic| walk_at "pyIter ref") => `(tactic| (refine held ?_))
local macro_rules | `(tactic| walk_at "call builtin:len") => `(tactic| (k_here; (with_reducible show wpAny _ _ (call (Value.builtin "len") [Value.ref _]) _ _ _); k_dflt (refine' kst_len ?k1 ?k2 ?k3 ?k4 ?_; (case k1 => k_asm); (case k2 => k_mem); (case k3 => exact PyProof.Rows.StrsAre.length (by with_reducible assumption)); (case k4 => omega); k_whole)))
local macro_rules | `(tactic| walk_at "subscriptTail Name Name ref int") => `(tactic| (k_here; (with_reducible show wpAny _ _ (subscriptTail _ _ (Value.ref _) (Value.int _ _)) _ _ _); k_dflt (refine' itemStrN_K ?N ?b ?S ?k0 ?k1 ?z ?_ ?w; (case N => k_asm); (case b => k_mem); (case S => with_reducible assumption); (case k0 => first | rfl | exact (Int.toNat_of_nonneg (by with_reducible assumption)).symm); (case k1 => first | with_reducible assumption | omega); (case z => first | with_reducible assumption | omega); (case w => with_unfolding_all rfl); k_whole; intro t'; (try dsimp only))))
local macro_rules | `(tactic| walk_at "subscriptTail Name Name ref int") => `(tactic| (k_here; (with_reducible show wpAny _ _ (subscriptTail _ _ (Value.ref _) (Value.int _ _)) _ _ _); k_dflt (refine' itemOptN_K ?N ?b ?S ?k0 ?k1 ?z ?y ?_ ?w; (case N => k_asm); (case b => k_mem); (case S => with_reducible assumption); (case k0 => exact (Int.toNat_of_nonneg (by with_reducible assumption)).symm); (case k1 => with_reducible assumption); (case z => with_reducible assumption); (case y => (refine' p_pick ?pa ?pb ?pc ?pd ?pe; (case pe => with_reducible assumption); (case pa => with_reducible assumption); (case pb => with_reducible assumption); (case pc => with_reducible assumption); (case pd => with_reducible assumption))); (case w => with_unfolding_all rfl); k_whole; intro y' t' hy'; (try dsimp only))))
local macro_rules | `(tactic| walk_at "compareOp In bool ref") => `(tactic| (k_here; (with_reducible show wpAny _ _ (compareOp CmpOp.In (Value.bool true) (Value.ref _)) _ _ _); k_dflt (refine in_true (by k_asm) (by k_mem) (by with_reducible assumption) ?_)))
local macro_rules | `(tactic| walk_at "CompEnd") => `(tactic| (with_unfolding_all (refine ks_endNo (by with_reducible assumption) (by with_reducible assumption) (by kcf_all) (by with_reducible assumption) (by first | lcg_src | assumption) (due_skip (by with_reducible assumption)))))
local macro_rules | `(tactic| walk_at "KsNo") => `(tactic| (exact ⟨rfl, due_skip (by with_reducible assumption)⟩))
local macro_rules | `(tactic| walk_at "CompEnd") => `(tactic| (with_unfolding_all (refine ks_endEl (by with_reducible assumption) (by with_reducible assumption) (by kcf_all) (by first | with_reducible assumption | (simp only [LCg.Off3, and_true]; done) | (simp only [LCg.Off3, and_true]; with_reducible assumption)) (by first | lcg_src | assumption) (by first | exact due_yes (by with_reducible assumption) (by with_reducible assumption) (by with_reducible assumption) | exact due_no (by with_reducible assumption) (by with_reducible assumption)))))
local macro_rules | `(tactic| walk_at "call ref") => `(tactic| (k_here; (with_reducible show wpAny _ _ (call (Value.ref 22) [Value.str _ _]) _ _ _); first
  | (k_dflt (refine' norm1_c ?F ?X ?N ?T ?hk ?dp ?un ?hl ?hf ?_; (case F => k_asm); (case N => k_asm); (case X => k_asm); (case T => k_asm); (case hk => first | exact rfl | assumption); (case dp => ktr_room); (case un => ktr_units); (case hl => with_reducible assumption); (case hf => with_reducible assumption); k_whole; intro t9 h9 tk9 F9 N9; (try dsimp only); (try k_fold)))
  | refine held ?_))
local macro_rules | `(tactic| walk_at "binaryOp Add str str") => `(tactic| (dsimp only; (first | (refine SB.add ?_ (cat_size1 (by with_reducible assumption) dot_len)) | (refine SB.add ?_ (cat_size1 (by with_reducible assumption) (by with_reducible assumption)))); intro tA kA; (try dsimp only)))
set_option maxRecDepth 100000 in
set_option maxHeartbeats 20000000 in
theorem law_t : PySem.Challenge.rw_mq0063_01.Holds := hd (by
  w_on
  k_with_none
  w_strict (
  k_go0
  all_goals (try k_fold)
  rename Fr _ _ _ _ => F0
  rename News _ _ _ _ => N0
  rename IntsAre _ _ => hI0
  rename PySem.Shared => sB
  refine cut_drawn F0 N0 ?c1 ?c2
  case c1 =>
    k_steps
    · refine' Held.mk ⟨rfl, DrawnJ.intro (ds := [7, 115, 4, 85, 38, 49]) ?hIa (by decide) ?Fa rfl ?Na ?suba ?lta⟩
      (case Fa => k_asm)
      (case Na => k_asm)
      (case suba => refine List.forall_mem_cons.mpr ⟨List.mem_cons_self, ?_⟩; kcf_all)
      (case hIa => repeat constructor)
      (case lta => with_reducible exact lt4 (by assumption))
    · refine' Held.mk ⟨rfl, DrawnJ.intro ?hIb (take14 (by with_reducible assumption)) ?Fb rfl ?Nb ?subb ?ltb⟩
      (case hIb => with_reducible assumption)
      (case Fb => k_asm)
      (case Nb => k_asm)
      (case subb => kcf_all)
      (case ltb => with_reducible exact lt4 (by assumption))
  case c2 =>
  intro dD dvs ds nD hD tkD hID hlD FD ND ltD
  have ltD := allLt_of ltD
  simp only [AllLt, and_true] at ltD
  refine cut_parts (rowF (ds.map (fun k => k.fmod 160))) FD ND ?c3 ?c4
  case c3 =>
    k_steps
    refine' Held.mk ⟨rfl, PartsJ.intro (by with_reducible assumption) (by with_reducible assumption) ?Fc ?Nc ?subc ?ltc⟩
    (case Fc => k_asm)
    (case Nc => k_asm)
    (case subc => kcf_all)
    (case ltc => simp only [AllLt, and_true]; refine ⟨?_, ?_, ?_, ?_, ?_⟩ <;> omega)
  case c4 =>
  intro dP pvs nP oP hP tkP hSP oPd FP NP ltP
  simp only [AllLt, and_true] at ltP
  refine cut_msg FP NP ?c5 ?c6
  case c5 =>
    k_steps
    all_goals (
      refine' Held.mk ⟨rfl, MsgJ.intro ?hmM ?FM rfl ?NM ?subM⟩
      (case FM => k_asm)
      (case NM => k_asm)
      (case subM => kcf_all)
      (case hmM => decide +kernel))
  case c6 =>
  intro msg tM hM tkM hmM FM NM
  have hlS := row_le (f := fun k => k.fmod 160) hlD
  have hnS := row_n (f := fun k => k.fmod 160) hlD
  have HP : Parts (rowF (List.map (fun k => k.fmod 160) ds)) := p_row hlD
  generalize rowF (List.map (fun k => k.fmod 160) ds) = ps at hSP hlS hnS HP
  have hzP := strs_z hSP hnS (by decide)
  refine cut_plains (ps.map plainF) FM NM ?c7 ?c8
  case c7 =>
    k_steps
    refine Held.mk (kd_rest (R := OptIs) (fun i => plainF (ps.getD i Str.empty)) (ps.map plainF) (by rw [List.size_toArray, hSP.length]; exact range_getD plainF Str.empty ps) ?turn7 ?fin7)
    case turn7 =>
      intro iE vE I oI C oC D m2 ys hE tkE E' hiE hvE hCE hxE FE NE offE neE
      obtain ⟨x, t, rfl, ex, eg⟩ := strs_src hSP hvE
      have hx100 : x.length ≤ 100 := Nat.le_trans (hlS _ (List.mem_of_getElem? ex)) (by decide)
      simp only [eg]
      clear neE
      k_steps
    case fin7 =>
      intro ys hyO hyn
      k_steps
      refine' Held.mk ⟨rfl, PlainsJ.intro hyO (by with_reducible assumption) ?F7 ?N7 ?sub7 ?lt7⟩
      (case F7 => k_asm)
      (case N7 => k_asm)
      (case sub7 => kcf_all)
      (case lt7 => (simp only [LCg.Off1, and_true]); with_reducible assumption)
  case c8 =>
  intro dO ovs nO oO hO tkO hOS oOd FO NO ltO
  simp only [LCg.Off1, and_true] at ltO
  refine cut_sound (soundL (ps.map plainF)) FO NO ?c9 ?c10
  case c9 =>
    k_steps
    refine Held.mk (kd_rest (R := BoolIs) (soundAt (ps.map plainF)) (soundL (ps.map plainF)) (by rw [soundL, List.length_map]; congr 2) ?turn9 ?fin9)
    case turn9 =>
      rintro iE vE I oI C oC D m2 ys hE tkE E' hiE ⟨tE, rfl⟩ hCE hxE FE NE offE neE
      have e0 : (0 : Int) + (iE : Int) = (iE : Int) := by omega
      rw [e0] at hxE
      have hSl := (hOS.drop (iE - 3)).take (iE + 1 - (iE - 3))
      have hzO : ovs.length ≤ sizeLine := opts_z hOS (by rw [List.length_map]; exact hnS) (by decide)
      clear neE
      k_steps
      refine Held.mk ?_
      refine' sliceI_K (a := iE - 3) (b := iE + 1) ?F9 ?N9 ?m9 ?a9 ?b9 ?h9 hzO ?s9 ?t9
      (case F9 => k_asm)
      (case N9 => k_asm)
      (case m9 => k_mem)
      (case a9 => exact max3_cast _)
      (case b9 => exact succ_cast _)
      (case s9 => with_unfolding_all rfl)
      (case t9 => intro _; with_unfolding_all rfl)
      intro D9 h9 F9 N9 lt9
      simp only [AllLt, and_true] at lt9
      k_steps
    case fin9 =>
      intro ys hyO hyn
      k_steps
      refine' Held.mk ⟨rfl, SoundJ.intro hyO (by with_reducible assumption) ?F10 ?N10 ?sub10 ?lt10⟩
      (case F10 => k_asm)
      (case N10 => k_asm)
      (case sub10 => kcf_all)
      (case lt10 => (simp only [LCg.Off1, and_true]); with_reducible assumption)
  case c10 =>
  intro dS svs nS oS hS tkS hSS oSd FS NS ltS
  simp only [LCg.Off1, and_true] at ltS
  k_steps
  refine Held.mk ?_
  refine' For_invTF ?F11 ?_ ?hs11
  (case F11 => k_asm)
  (case hs11 => intro _; rfl)
  k_steps
  refine Held.mk ?_
  refine' for_law (n := ps.length) (fun i told => told = toldF ps i) rfl ?hr12 ?hb12 ?hn12 ?F12 ?N12 ?ho12 ?h112 ?h212 ?h012 ?turn12 ?done12
  (case hr12 => assumption)
  (case hb12 => first | rfl | omega)
  (case hn12 => omega)
  (case F12 => k_asm)
  (case N12 => k_asm)
  (case ho12 => assumption)
  (case h112 => rfl)
  (case h212 => rfl)
  (case h012 => rfl)
  case done12 =>
    intro m1 h1 tk1 F1
    k_steps
  case turn12 =>
  rintro iL tL ok vk _ tt tm m1 sT I oI hiL rfl hok FT NT offT
  simp only [LCg.Off1, and_true] at offT
  have FT : Fr sB.heap sB.heap.objs.size sT.heap _ := FT
  have NT : News sB.heap sB.heap.objs.size sT.heap _ := NT
  refine wpAny_assign_Name ?_
  refine' storeX_C ?F13 ?N13 ?c13 ?U13 hok ?_ ?a13 ?b13
  (case a13 => rfl)
  (case b13 => rfl)
  (case F13 => exact FT)
  (case N13 => exact NT)
  (case c13 => rfl)
  (case U13 => k_updF)
  intro hK oK FK NK dK
  (try dsimp only at NK)
  clear FT NT offT ltS ltO ltP ltD
  obtain ⟨hf1l, hf1f⟩ := p_fit1 HP hiL
  obtain ⟨hf0l, hf0f⟩ := p_fit0 HP iL
  have hTl : (toldF ps iL).length ≤ 300 := Nat.le_trans (p_told_len HP (Nat.le_of_lt hiL)) (by decide)
  have hTd : (ps.getD iL Str.empty ++ Str.ofString ".").length ≤ 300 := by rw [Str.length_append] at hf1l; exact Nat.le_trans (Nat.le_add_right _ _) hf1l
  refine cut_str (Str.ofString "told") (fun x => x = toldF ps (iL + 1)) FK NK ?t1 ?t2
  case t1 =>
    k_steps
    · refine' Held.mk ⟨rfl, StrJ.intro ?P14 ?F14 rfl ?N14 ?sub14⟩
      (case F14 => k_asm)
      (case N14 => k_asm)
      (case sub14 => kcf_all)
      (case P14 => exact told_pos (by omega))
    · refine' Held.mk ⟨rfl, StrJ.intro ?P15 ?F15 rfl ?N15 ?sub15⟩
      (case F15 => k_asm)
      (case N15 => k_asm)
      (case sub15 => kcf_all)
      (case P15 => exact told_zero (by omega))
  case t2 =>
  rintro _ tN hN tkN rfl FN NN
  refine cut_lst (Str.ofString "due") (fun vs => StrsAre vs (dueL ps iL)) FN NN ?t3 ?t4
  case t3 =>
    k_steps
    refine Held.mk (ks_rest (ks := [(iL : Int), (iL : Int) - 1, (iL : Int) - 2]) (dueG ps iL) rfl ?hP16 ?turn16 ?fin16)
    case hP16 => exact three_src
    case turn16 =>
      intro kE tE I' oI' C oC D' m2 ys l hE tkE E' hkE hyE hCE hxE FE NE offE neE
      have hkL : kE ≤ (iL : Int) := three_le hkE
      have hkT : kE.toNat ≤ iL := to_le hkL
      have hkT2 : iL ≤ kE.toNat + 2 := to_ge (three_ge hkE)
      have hkN : kE.toNat < ps.length := Nat.lt_of_le_of_lt hkT hiL
      have hkM : kE.toNat < (ps.map plainF).length := map_lt hkT hiL
      have hzM : (ps.map plainF).length ≤ 1000 := map_z hnS
      have hzN : ps.length ≤ 1000 := le_1000 hnS
      clear neE
      k_steps
      refine Held.mk ?_
      have h0E : 0 ≤ kE := by with_reducible assumption
      have hSl := (hSS.drop kE.toNat).take (iL + 1 - kE.toNat)
      have hzS : svs.length ≤ sizeLine := bols_z hSS (by rw [soundL, List.length_map, List.length_range, List.length_map]; exact hnS) (by decide)
      refine' sliceI_K (a := kE.toNat) (b := iL + 1) ?F17 ?N17 ?m17 ?a17 ?b17 ?h17 hzS ?s17 ?t17
      (case F17 => k_asm)
      (case N17 => k_asm)
      (case m17 => k_mem)
      (case a17 => exact (Int.toNat_of_nonneg h0E).symm)
      (case b17 => exact succ_cast _)
      (case s17 => with_unfolding_all rfl)
      (case t17 => intro _; with_unfolding_all rfl)
      intro D9 h9 F9 N9 lt9
      simp only [AllLt, and_true] at lt9
      k_steps
    case fin16 =>
      intro ys hyS
      k_steps
      refine' Held.mk ⟨rfl, LstJ.intro hyS ?F18 rfl ?N18 ?sub18⟩
      (case F18 => k_asm)
      (case N18 => k_asm)
      (case sub18 => kcf_all)
  case t4 =>
  intro dU uvs nU hU tkU hUS FU NU
  have hTn : (toldF ps (iL + 1)).length ≤ 300 := Nat.le_trans (p_told_len HP (i := iL + 1) hiL) (by decide)
  have hML : msg.length ≤ 300 := msg_len hmM
  refine cut_no FU NU ?t5 ?t6
  case t5 =>
    k_steps
    · exact (bne_absurd (by with_reducible assumption) (p_told HP hiL)).elim
    · exact (bne_absurd (by with_reducible assumption) (p_strip HP hiL hmM)).elim
    · refine' Held.mk ⟨rfl, NoJ.intro ?F70 ?N70 ?sub70⟩
      (case F70 => k_asm)
      (case N70 => k_asm)
      (case sub70 => kcf_all)
  case t6 =>
  intro hV tkV FV NV
  refine cut_str (Str.ofString "build") (fun x => x = buildF ps iL) FV NV ?t7 ?t8
  case t7 =>
    k_steps
    · refine' Held.mk ⟨rfl, StrJ.intro ?P51 ?F51 rfl ?N51 ?sub51⟩
      (case F51 => k_asm)
      (case N51 => k_asm)
      (case sub51 => kcf_all)
      (case P51 => exact build_yes (by omega))
    · refine' Held.mk ⟨rfl, StrJ.intro ?P52 ?F52 rfl ?N52 ?sub52⟩
      (case F52 => k_asm)
      (case N52 => k_asm)
      (case sub52 => kcf_all)
      (case P52 => exact build_no (by omega))
  case t8 =>
  rintro _ tB hB tkB rfl FB NB
  have hUn := (p_due_n HP iL).2
  refine cut_lst (Str.ofString "handed") (fun vs => StrsAre vs (handedL ps iL)) FB NB ?t9 ?t10
  case t9 =>
    k_steps
    · refine' Held.mk ⟨rfl, LstJ.intro ?P53 ?F53 rfl ?N53 ?sub53⟩
      (case F53 => k_asm)
      (case N53 => k_asm)
      (case sub53 => kcf_all)
      (case P53 => exact strs_eq (by with_reducible assumption) (handed_yes (by with_reducible assumption)))
    · refine' Held.mk ⟨rfl, LstJ.intro ?P54 ?F54 rfl ?N54 ?sub54⟩
      (case F54 => k_asm)
      (case N54 => k_asm)
      (case sub54 => kcf_all)
      (case P54 => exact strs_eq (by with_reducible assumption) (handed_no (by with_reducible assumption)))
  case t10 =>
  intro dH hvs nH hH tkH hHS FH NH
  have hHn := p_handed_n HP iL
  have hzH1 : hvs.toArray.size ≤ sizeLine := strs_z hHS hHn (by decide)
  have hzH2 : hvs.length ≤ sizeLine := by simpa using hzH1
  refine cut_lst (Str.ofString "bare") (fun vs => OptsAre vs (bareL ps iL)) FH NH ?t11 ?t12
  case t11 =>
    k_steps
    refine Held.mk (kd_rest (R := OptIs) (fun i => plainF ((handedL ps iL).getD i Str.empty)) (bareL ps iL) (by rw [List.size_toArray, StrsAre.length hHS]; exact range_getD plainF Str.empty (handedL ps iL)) ?turn55 ?fin55)
    case turn55 =>
      intro iE vE I' oI' C oC D m2 ys hE tkE E' hiE hvE hCE hxE FE NE offE neE
      obtain ⟨x, t, rfl, ex, eg⟩ := strs_src hHS hvE
      have hx100 : x.length ≤ 100 := p_handed_len HP _ (List.mem_of_getElem? ex)
      simp only [eg]
      clear neE
      k_steps
    case fin55 =>
      intro ys hyO hyn
      k_steps
      refine' Held.mk ⟨rfl, LstJ.intro hyO ?F56 rfl ?N56 ?sub56⟩
      (case F56 => k_asm)
      (case N56 => k_asm)
      (case sub56 => kcf_all)
  case t12 =>
  intro dR rvs nR hR tkR hRS FR NR
  have hzR2 : rvs.length ≤ sizeLine := opts_z hRS (by rw [bareL, List.length_map]; exact hHn) (by decide)
  have hBl := p_build_len HP iL
  have hF2 := p_fit2 HP hiL
  refine cut_no FR NR ?t13 ?t14
  case t13 =>
    k_steps
    · exact (bne_absurd (by with_reducible assumption) (p_norm_none HP hiL (by with_reducible assumption))).elim
    · refine' Held.mk ⟨rfl, NoJ.intro ?F71 ?N71 ?sub71⟩
      (case F71 => k_asm)
      (case N71 => k_asm)
      (case sub71 => kcf_all)
    · exact (bne_absurd (by with_reducible assumption) (p_norm_some HP hiL (by with_reducible assumption))).elim
    · refine' Held.mk ⟨rfl, NoJ.intro ?F72 ?N72 ?sub72⟩
      (case F72 => k_asm)
      (case N72 => k_asm)
      (case sub72 => kcf_all)
  case t14 =>
  intro hW tkW FW NW
  k_steps
  refine' law_end ?F57 ?N57 ?sub57 dK ?h57 ?h58 rfl
  (case F57 => k_asm)
  (case N57 => k_asm)
  (case sub57 => kcf_all)
  (case h57 => rfl)
  (case h58 => rfl)))
end Mine
end
theorem PySem.Challenge.cw_mq0063_01_holds : PySem.Challenge.rw_mq0063_01.Holds :=
  Mine.law_t
