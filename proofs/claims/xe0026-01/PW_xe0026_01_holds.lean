import PyProof.Rows.All
import Wide.All
import OpenK.AllK
import Wide.FinOn
import PySem.Challenge.RW_xe0026_01
set_option Elab.async false
set_option rowWalk.seconds 0
set_option linter.unusedVariables false
section
open PySem PySem.W PyProof.Rows
namespace Mine
set_option maxRecDepth 100000 in
set_option maxHeartbeats 8000000 in
open_top hd for PySem.Challenge.rw_xe0026_01
end Mine
end
section
open PySem PySem.W PyProof.Rows
namespace Mine
noncomputable abbrev LN : List Str := looseW hd.view_39 [Str.ofString "UTC_ZONES", Str.ofString "TIMEZONE_RE", Str.ofString "IPV4_RE", Str.ofString "_safe_string"]
noncomputable def subCost (a b : Str) : Int := if a = b then 0 else if Txt.lower a = Txt.lower b then 1 else 2
set_option maxRecDepth 100000 in
set_option maxHeartbeats 8000000 in
theorem sub_cost (w : World) (mean : ExcName → Option Value) (mg mb : Str → Option Value) (a b : Str) (ta tb : Tok) (news : List (Addr × Obj)) (ha : a.length = 1) (hb : b.length = 1) :
    CbClaim PySem.Challenge.rw_xe0026_01.row.prog w (hd.heap_39 w.params) hd.view_39 LN mean mg mb 92 news [] True [.str a ta, .str b tb] (fun t => .int (subCost a b) t) := by
  k_fill
  dsimp only [CbClaim, CbLists, CbRet]
  intro dp un gd cn cs aa ccd cl outer A₀ base h₀ L m s Q E B F X N T hk _ hd hu hret
  refine wpAny_call ?_
  k_dflt cell_enter
  (w_top off; k_with_none; k_steps)
  all_goals (refine cb_retI (Q := Q) hret ?_ (by k_asm) (by k_asm); simp_all [subCost])
end Mine
end
section
open PySem PySem.W PyProof PyProof.Rows
namespace Mine
theorem slice0 (x : Str) : Txt.slice x (some 0) none = x := by
  rw [slice_from_eq (by omega) (by omega) rfl]
  apply PySem.Str.ext'
  simp only [PySem.Str.length, Int.toNat_zero, List.drop_zero, Int.sub_zero, Int.toNat_natCast]
  rw [List.take_of_length_le (by simp)]
theorem slice_nn (x : Str) : Txt.slice x none none = x := by
  have e : Txt.slice x none none = Txt.slice x (some 0) none := by
    unfold Txt.slice
    have : PySem.Builtin.Str.strSliceIndices none none 1 x.length = PySem.Builtin.Str.strSliceIndices (some 0) none 1 x.length := by
      unfold PySem.Builtin.Str.strSliceIndices; simp; try (congr 1; try omega)
    rw [this]
  rw [e, slice0]
theorem item_len (x : Str) (i : Int) : (Txt.item x i).length = 1 := rfl
section
open PySem.Spec
variable {prog : Program} {w : World} {A : Around} {E : Value → Shared → Prop} {s : Shared} {value slice : Expr} {x y : Str} {t : Tok} {h₀ : Heap} {L : Addr} {m : Str → Option Value} {news : List (Addr × Obj)} {Q : Value → Shared → Prop}
theorem sl_nn (hF : Fr h₀ L s.heap m) (hN : News h₀ L s.heap news) (h : ∀ h' t' k, Fr h₀ L h' m → News h₀ L h' news → Q (.str x t') { s with heap := h', toks := k })
    (hs : subscripted slice false (.str x t) (.ref s.heap.objs.size) = operate [.ref s.heap.objs.size, .str x t] (getItem (.str x t) (.ref s.heap.objs.size)) := by with_unfolding_all rfl)
    (ht : ∀ r, letTemporaryGo value (.str x t) r = pure () := by intro _; with_unfolding_all rfl) (hsz : x.length ≤ sizeLine := by size_fits) :
    wpAny (model prog w) A (subscriptTail value slice (.str x t) (.ref s.heap.objs.size)) Q E { s with heap := s.heap.push { cls := .type "slice", data := .fields #[.none, .none, .none] } } :=
  slice_strN_nn hF hN (fun h' t' k a b => by rw [slice_nn]; exact h h' t' k a b) hs ht hsz
theorem tok_add {α : Type} {T : Sem α} {Q : α → Shared → Prop} {h : Heap} {g : Array GenState} {d : Drawn} {a b : Nat} {os : OsState} (H : ∀ tk, wpAny (model prog w) A T Q E ⟨h, g, d, tk, os⟩) :
    wpAny (model prog w) A T Q E ⟨h, g, d, a + b, os⟩ := H _
theorem sl_sn {i : Int} {ui : Tok} (e : Txt.slice x (some i) none = y) (hF : Fr h₀ L s.heap m) (hN : News h₀ L s.heap news) (h : ∀ h' t' k, Fr h₀ L h' m → News h₀ L h' news → Q (.str y t') { s with heap := h', toks := k })
    (hs : subscripted slice false (.str x t) (.ref s.heap.objs.size) = operate [.ref s.heap.objs.size, .str x t] (getItem (.str x t) (.ref s.heap.objs.size)) := by with_unfolding_all rfl)
    (ht : ∀ r, letTemporaryGo value (.str x t) r = pure () := by intro _; with_unfolding_all rfl) (hsz : x.length ≤ sizeLine := by size_fits) :
    wpAny (model prog w) A (subscriptTail value slice (.str x t) (.ref s.heap.objs.size)) Q E { s with heap := s.heap.push { cls := .type "slice", data := .fields #[.int i ui, .none, .none] } } :=
  slice_strN_sn hF hN (fun h' t' k a b => by rw [e]; exact h h' t' k a b) hs ht hsz
end
/-- ints out of what is known of each place -/
theorem ints_of : ∀ (vs : List Value) (ns : List Int), vs.length = ns.length → (∀ (j : Nat) (v : Value), vs[j]? = some v → ∃ t, v = .int (ns.getD j 0) t) → IntsAre vs ns
  | [], [], _, _ => IntsAre.nil
  | v :: r, n :: ns, e, h => by
    obtain ⟨t, rfl⟩ := h 0 v rfl
    exact IntsAre.cons _ _ (ints_of r ns (by simpa using e) fun j u hu => h (j + 1) u (by simpa using hu))
  | [], _ :: _, e, _ => by simp at e
  | _ :: _, [], e, _ => by simp at e
section
variable {prog : Program} {w : World} {A : Around} {E : Value → Shared → Prop} {s : Shared} {h₀ : Heap} {L r : Addr} {m : Str → Option Value} {news : List (Addr × Obj)} {b : Int} {t₀ u₀ v₀ : Tok} {Q : Value → Shared → Prop}
theorem row_range (hh : A.handled = none) (F : Fr h₀ L s.heap m) (N : News h₀ L s.heap news) (hr : IsRange s.heap r 2 b 2 t₀ u₀ v₀) (hb : b = 18)
    (h : ∀ D us c h' tk, Fr h₀ L h' m → News h₀ L h' ((D, listOf (List.toArray us) c) :: news) → (∀ p ∈ news, p.1 < D) → IntsAre us [2, 4, 6, 8, 10, 12, 14, 16] → Q (.ref D) { s with heap := h', toks := tk }) :
    wpAny (model prog w) A (call (.type "list") [.ref r]) Q E s := by
  subst hb
  refine call_list_range (n := 8) hh hr (by decide) (by decide) (by decide) fun h' tk acc c hk hD hI => ?_
  have hD' : h'.get? s.heap.objs.size = some (listOf (List.toArray acc.toList) c) := by
    rw [Array.toArray_toList]
    exact hD
  refine h _ acc.toList c h' tk (F.keeps hk) (news_pushed F N hk hD' rfl) (fun p hp => Heap.lt_size (N p hp).1) (ints_of _ _ (by rw [Array.length_toList]; exact hI.1) fun j v hj => ?_)
  obtain ⟨t, e⟩ := hI.2 j v (by rw [← hj, Array.getElem?_toList])
  refine ⟨t, e.trans ?_⟩
  have hlt : j < 8 := by
    have := (List.getElem?_eq_some_iff.mp hj).1
    rw [Array.length_toList, hI.1] at this; exact this
  congr 1
  revert hlt
  clear hj e
  revert j
  decide
end
section
variable {w : World} {mean : ExcName → Option Value} {mg mb : Str → Option Value} {a b : Str} {ta tb : Tok} {news : List (Addr × Obj)} {dp un : Nat} {gd : Option (List Code)} {cn : Str} {cs : Scope} {aa : Addr} {ccd : Value} {cl : List (Str × Addr)} {outer : List Env} {A₀ : Around} {base h₀ : Heap} {L : Addr} {m : Str → Option Value} {s : Shared} {Q E : Value → Shared → Prop}
theorem sub_use (ha : a.length = 1) (hb : b.length = 1) (B : Below A₀ base outer h₀) (F : Fr h₀ L s.heap m) (X : (hd.heap_39 w.params).In h₀) (N : News h₀ L s.heap news) (T : Top hd.view_39 LN mean mg mb h₀) (hk : cs.kind = .function) (hd : dp + 1 < recursionLimit) (hu : un + 8 < cLine)
    (ret : ∀ (t : Tok) (h' : Heap) (tk' : Nat), Fr h₀ L h' m → News h₀ L h' news → Q (.int (subCost a b) t) { s with heap := h', toks := tk' }) :
    wpAny (model PySem.Challenge.rw_xe0026_01.row.prog w) (ktrTop dp un gd cn cs L aa ccd cl outer) (call (.ref 92) [.str a ta, .str b tb]) Q E s :=
  sub_cost w mean mg mb a b ta tb news ha hb _ _ _ _ _ _ _ _ _ _ _ _ _ _ _ _ _ B F X N T hk trivial hd hu ret
end
noncomputable def inNew (a bc : Str) (d r : Int) (row : List Int) (i : Int) : Int :=
  if d + subCost bc (Txt.item a i) < (if row.getD i.toNat 0 < r then row.getD i.toNat 0 else r) + 2 then d + subCost bc (Txt.item a i) else (if row.getD i.toNat 0 < r then row.getD i.toNat 0 else r) + 2
noncomputable def inStep (a bc : Str) (st : Int × Int × Int × List Int) (i : Int) : Int × Int × Int × List Int :=
  (st.2.2.2.getD i.toNat 0, inNew a bc st.1 st.2.1 st.2.2.2 i, if inNew a bc st.1 st.2.1 st.2.2.2 i < st.2.2.1 then inNew a bc st.1 st.2.1 st.2.2.2 i else st.2.2.1, st.2.2.2.set i.toNat (inNew a bc st.1 st.2.1 st.2.2.2 i))
noncomputable def inN (a bc : Str) (bi : Int) (row : List Int) : Nat → Int × Int × Int × List Int
  | 0 => (bi * 2, bi * 2, 9223372036854775807, row)
  | k + 1 => inStep a bc (inN a bc bi row k) k
noncomputable def outN (a b : Str) : Nat → Int × List Int
  | 0 => (0, [2, 4, 6, 8, 10, 12, 14, 16])
  | k + 1 => ((inN a (Txt.item b k) k (outN a b k).2 8).2.1, (inN a (Txt.item b k) k (outN a b k).2 8).2.2.2)
end Mine
end
section
open PySem PySem.W PyProof PyProof.Rows
namespace Mine
theorem slen {x : Str} {i : Int} (h0 : 0 ≤ i) (h1 : i ≤ x.length) : (Txt.slice x (some i) none).length = x.length - i.toNat := by
  rw [slice_from_eq h0 h1 rfl]
  have : x.cps.toList.length = x.length := rfl
  simp only [PySem.Str.length, List.size_toArray, List.length_take, List.length_drop] at *
  omega
section
open PySem.Spec
variable {prog : Program} {w : World} {A : Around} {E : Value → Shared → Prop} {s : Shared} {value slice : Expr} {x y : Str} {t : Tok} {h₀ : Heap} {L : Addr} {m : Str → Option Value} {news : List (Addr × Obj)} {Q : Value → Shared → Prop}
theorem sl_tail {i : Int} {ui : Tok} (h0 : 0 ≤ i) (h1 : i ≤ x.length) (hF : Fr h₀ L s.heap m) (hN : News h₀ L s.heap news) (h : ∀ (y : Str) h' t' k, y.length = x.length - i.toNat → Fr h₀ L h' m → News h₀ L h' news → Q (.str y t') { s with heap := h', toks := k })
    (hs : subscripted slice false (.str x t) (.ref s.heap.objs.size) = operate [.ref s.heap.objs.size, .str x t] (getItem (.str x t) (.ref s.heap.objs.size)) := by with_unfolding_all rfl)
    (ht : ∀ r, letTemporaryGo value (.str x t) r = pure () := by intro _; with_unfolding_all rfl) (hsz : x.length ≤ sizeLine := by size_fits) :
    wpAny (model prog w) A (subscriptTail value slice (.str x t) (.ref s.heap.objs.size)) Q E { s with heap := s.heap.push { cls := .type "slice", data := .fields #[.int i ui, .none, .none] } } :=
  slice_strN_sn hF hN (fun h' t' k a b => h _ h' t' k (slen h0 h1) a b) hs ht hsz
theorem truthy_nil {A : Around} {Q : Bool → Shared → Prop} (hp : x.length = 0) (h : ∀ k, Q false { s with toks := k }) : wpAny (model prog w) A (PySem.truthy (.str x t)) Q E s :=
  KXt.truthy (by rw [hp]; rfl) (by omega) h
theorem truthy_eqb {A : Around} {Q : Bool → Shared → Prop} {a b : Str} {r : Bool} (h : (a == b) = r) (hr : wpAny (model prog w) A (PySem.truthy (.bool r)) Q E s) : wpAny (model prog w) A (PySem.truthy (.bool (a == b))) Q E s := by
  rw [h]; exact hr
theorem truthy_same {A : Around} {Q : Bool → Shared → Prop} {a b : Str} {i : Int} {n : Nat} (hit : ∀ i : Int, 0 ≤ i → i < n → (Txt.item a i == Txt.item b i) = true) (h0 : 0 ≤ i) (h1 : i < n) (h : wpAny (model prog w) A (PySem.truthy (.bool true)) Q E s) : wpAny (model prog w) A (PySem.truthy (.bool (Txt.item a i == Txt.item b i))) Q E s := by
  rw [hit i h0 h1]; exact h
end
theorem lev_end {h₀ : Heap} {L : Addr} {m : Str → Option Value} {news : List (Addr × Obj)} {s : Shared} {Q : Value → Shared → Prop} {r i : Int} {tk t : Nat} {h' : Heap}
    (hret : ∀ (t : Tok) (h' : Heap) (tk' : Nat), Fr h₀ L h' m → News h₀ L h' news → Q (.int r t) { s with heap := h', toks := tk' }) (e : i = r) (F : Fr h₀ L h' m) (N : News h₀ L h' news) : Q (.int i t) { s with heap := h', toks := tk } := by
  subst e
  exact hret t h' tk F N
local macro_rules | `(tactic| walk_at $s:str) => `(tactic| k_extra $s)
section
variable {w : World} {mean : ExcName → Option Value} {mg mb : Str → Option Value} {a b : Str} {ta tb tc : Tok} {news : List (Addr × Obj)} {dp un : Nat} {gd : Option (List Code)} {cn : Str} {cs : Scope} {aa : Addr} {ccd : Value} {cl : List (Str × Addr)} {outer : List Env} {A₀ : Around} {base h₀ : Heap} {L : Addr} {m : Str → Option Value} {s : Shared} {Q E : Value → Shared → Prop}
set_option maxRecDepth 100000 in
set_option maxHeartbeats 8000000 in
theorem lev_pre4 (ha : a.length = 8) (hb : b.length = 4) (hab : (a == b) = false) (hit : ∀ i : Int, 0 ≤ i → i < ((4 : Nat) : Int) → (Txt.item a i == Txt.item b i) = true)
    (B : Below A₀ base outer h₀) (F : Fr h₀ L s.heap m) (X : (hd.heap_39 w.params).In h₀) (N : News h₀ L s.heap news) (T : Top hd.view_39 LN mean mg mb h₀) (hk : cs.kind = .function) (hdp : dp + 9 < recursionLimit) (hun : un + 99 < cLine)
    (hret : ∀ (t : Tok) (h' : Heap) (tk' : Nat), Fr h₀ L h' m → News h₀ L h' news → Q (.int 8 t) { s with heap := h', toks := tk' }) :
    wpAny (model PySem.Challenge.rw_xe0026_01.row.prog w) (ktrTop dp un gd cn cs L aa ccd cl outer) (call (.ref 99) [.str a ta, .str b tb, .int 16 tc]) Q E s := by
  revert X; k_fill; intro X
  refine wpAny_call ?_
  k_dflt cell_enter
  (w_top off; k_with_none; (k_with "exec While BoolOp" => ((k_here; k_dflt (refine whl_start 8 ?_)))); (k_with "subscriptTail Name Slice str ref" => ((k_here; (with_reducible show wpAny _ _ (subscriptTail _ (Expr.Slice none (some (Expr.BoolOp _ _ _)) none _) _ _) _ _ _); (with_reducible rename Fr _ _ _ _ => F'); (with_reducible rename News _ _ _ _ => N'); (refine sl_nn (hsz := ?n1hsz) (s := ⟨_, _, _, _, _⟩) F' N' ?_); (case n1hsz => size_fits); intro _ _ _ _ _))); (k_with "subscriptTail Name Slice str ref" => ((k_here; (with_reducible show wpAny _ _ (subscriptTail _ (Expr.Slice (some (Expr.Name _ _)) none none _) _ _) _ _ _); (with_reducible rename Fr _ _ _ _ => F'); (with_reducible rename News _ _ _ _ => N'); (refine sl_tail (h0 := ?n2h0) (h1 := ?n2h1) (hsz := ?n2hsz) (s := ⟨_, _, _, _, _⟩) F' N' ?_); (case n2h0 => omega); (case n2h1 => omega); (case n2hsz => size_fits); intro _ _ _ _ _ _ _))); (k_with "execs cons" => ((k_here; (first | with_reducible refine tok_add ?_ | (dsimp only; with_reducible refine tok_add ?_)); intro _))); (k_with "execs nil" => ((k_here; (first | with_reducible refine tok_add ?_ | (dsimp only; with_reducible refine tok_add ?_)); intro _))); (k_with "truthy bool" => ((k_here; (with_reducible refine truthy_same (by assumption) ?n5h0 ?n5h1 ?_); (case n5h0 => omega); (case n5h1 => omega)))); (k_with "truthy bool" => ((k_here; (with_reducible refine truthy_eqb (by assumption) ?_)))); (k_with "truthy str" => ((k_here; (with_reducible show wpAny _ _ (PySem.truthy (Value.str _ _)) _ _ _); first | (refine KXt.truthy_pos (K := 16777216) (by omega) (by omega) (Nat.le_refl _) ?_; intro _) | (refine truthy_nil (by omega) ?_; intro _)))); k_steps)
  all_goals first
    | exact Bool.noConfusion ((show (a == b) = true by assumption).symm.trans hab)
    | exact lev_end hret (by omega) (by k_asm) (by k_asm)
set_option maxRecDepth 100000 in
set_option maxHeartbeats 8000000 in
theorem lev_pre5 (ha : a.length = 8) (hb : b.length = 5) (hab : (a == b) = false) (hit : ∀ i : Int, 0 ≤ i → i < ((5 : Nat) : Int) → (Txt.item a i == Txt.item b i) = true)
    (B : Below A₀ base outer h₀) (F : Fr h₀ L s.heap m) (X : (hd.heap_39 w.params).In h₀) (N : News h₀ L s.heap news) (T : Top hd.view_39 LN mean mg mb h₀) (hk : cs.kind = .function) (hdp : dp + 9 < recursionLimit) (hun : un + 99 < cLine)
    (hret : ∀ (t : Tok) (h' : Heap) (tk' : Nat), Fr h₀ L h' m → News h₀ L h' news → Q (.int 6 t) { s with heap := h', toks := tk' }) :
    wpAny (model PySem.Challenge.rw_xe0026_01.row.prog w) (ktrTop dp un gd cn cs L aa ccd cl outer) (call (.ref 99) [.str a ta, .str b tb, .int 16 tc]) Q E s := by
  revert X; k_fill; intro X
  refine wpAny_call ?_
  k_dflt cell_enter
  (w_top off; k_with_none; (k_with "exec While BoolOp" => ((k_here; k_dflt (refine whl_start 8 ?_)))); (k_with "subscriptTail Name Slice str ref" => ((k_here; (with_reducible show wpAny _ _ (subscriptTail _ (Expr.Slice none (some (Expr.BoolOp _ _ _)) none _) _ _) _ _ _); (with_reducible rename Fr _ _ _ _ => F'); (with_reducible rename News _ _ _ _ => N'); (refine sl_nn (hsz := ?n1hsz) (s := ⟨_, _, _, _, _⟩) F' N' ?_); (case n1hsz => size_fits); intro _ _ _ _ _))); (k_with "subscriptTail Name Slice str ref" => ((k_here; (with_reducible show wpAny _ _ (subscriptTail _ (Expr.Slice (some (Expr.Name _ _)) none none _) _ _) _ _ _); (with_reducible rename Fr _ _ _ _ => F'); (with_reducible rename News _ _ _ _ => N'); (refine sl_tail (h0 := ?n2h0) (h1 := ?n2h1) (hsz := ?n2hsz) (s := ⟨_, _, _, _, _⟩) F' N' ?_); (case n2h0 => omega); (case n2h1 => omega); (case n2hsz => size_fits); intro _ _ _ _ _ _ _))); (k_with "execs cons" => ((k_here; (first | with_reducible refine tok_add ?_ | (dsimp only; with_reducible refine tok_add ?_)); intro _))); (k_with "execs nil" => ((k_here; (first | with_reducible refine tok_add ?_ | (dsimp only; with_reducible refine tok_add ?_)); intro _))); (k_with "truthy bool" => ((k_here; (with_reducible refine truthy_same (by assumption) ?n5h0 ?n5h1 ?_); (case n5h0 => omega); (case n5h1 => omega)))); (k_with "truthy bool" => ((k_here; (with_reducible refine truthy_eqb (by assumption) ?_)))); (k_with "truthy str" => ((k_here; (with_reducible show wpAny _ _ (PySem.truthy (Value.str _ _)) _ _ _); first | (refine KXt.truthy_pos (K := 16777216) (by omega) (by omega) (Nat.le_refl _) ?_; intro _) | (refine truthy_nil (by omega) ?_; intro _)))); k_steps)
  all_goals first
    | exact Bool.noConfusion ((show (a == b) = true by assumption).symm.trans hab)
    | exact lev_end hret (by omega) (by k_asm) (by k_asm)
set_option maxRecDepth 100000 in
set_option maxHeartbeats 8000000 in
theorem lev_pre6 (ha : a.length = 8) (hb : b.length = 6) (hab : (a == b) = false) (hit : ∀ i : Int, 0 ≤ i → i < ((6 : Nat) : Int) → (Txt.item a i == Txt.item b i) = true)
    (B : Below A₀ base outer h₀) (F : Fr h₀ L s.heap m) (X : (hd.heap_39 w.params).In h₀) (N : News h₀ L s.heap news) (T : Top hd.view_39 LN mean mg mb h₀) (hk : cs.kind = .function) (hdp : dp + 9 < recursionLimit) (hun : un + 99 < cLine)
    (hret : ∀ (t : Tok) (h' : Heap) (tk' : Nat), Fr h₀ L h' m → News h₀ L h' news → Q (.int 4 t) { s with heap := h', toks := tk' }) :
    wpAny (model PySem.Challenge.rw_xe0026_01.row.prog w) (ktrTop dp un gd cn cs L aa ccd cl outer) (call (.ref 99) [.str a ta, .str b tb, .int 16 tc]) Q E s := by
  revert X; k_fill; intro X
  refine wpAny_call ?_
  k_dflt cell_enter
  (w_top off; k_with_none; (k_with "exec While BoolOp" => ((k_here; k_dflt (refine whl_start 8 ?_)))); (k_with "subscriptTail Name Slice str ref" => ((k_here; (with_reducible show wpAny _ _ (subscriptTail _ (Expr.Slice none (some (Expr.BoolOp _ _ _)) none _) _ _) _ _ _); (with_reducible rename Fr _ _ _ _ => F'); (with_reducible rename News _ _ _ _ => N'); (refine sl_nn (hsz := ?n1hsz) (s := ⟨_, _, _, _, _⟩) F' N' ?_); (case n1hsz => size_fits); intro _ _ _ _ _))); (k_with "subscriptTail Name Slice str ref" => ((k_here; (with_reducible show wpAny _ _ (subscriptTail _ (Expr.Slice (some (Expr.Name _ _)) none none _) _ _) _ _ _); (with_reducible rename Fr _ _ _ _ => F'); (with_reducible rename News _ _ _ _ => N'); (refine sl_tail (h0 := ?n2h0) (h1 := ?n2h1) (hsz := ?n2hsz) (s := ⟨_, _, _, _, _⟩) F' N' ?_); (case n2h0 => omega); (case n2h1 => omega); (case n2hsz => size_fits); intro _ _ _ _ _ _ _))); (k_with "execs cons" => ((k_here; (first | with_reducible refine tok_add ?_ | (dsimp only; with_reducible refine tok_add ?_)); intro _))); (k_with "execs nil" => ((k_here; (first | with_reducible refine tok_add ?_ | (dsimp only; with_reducible refine tok_add ?_)); intro _))); (k_with "truthy bool" => ((k_here; (with_reducible refine truthy_same (by assumption) ?n5h0 ?n5h1 ?_); (case n5h0 => omega); (case n5h1 => omega)))); (k_with "truthy bool" => ((k_here; (with_reducible refine truthy_eqb (by assumption) ?_)))); (k_with "truthy str" => ((k_here; (with_reducible show wpAny _ _ (PySem.truthy (Value.str _ _)) _ _ _); first | (refine KXt.truthy_pos (K := 16777216) (by omega) (by omega) (Nat.le_refl _) ?_; intro _) | (refine truthy_nil (by omega) ?_; intro _)))); k_steps)
  all_goals first
    | exact Bool.noConfusion ((show (a == b) = true by assumption).symm.trans hab)
    | exact lev_end hret (by omega) (by k_asm) (by k_asm)
set_option maxRecDepth 100000 in
set_option maxHeartbeats 8000000 in
theorem lev_same (ha : a.length = 8) (hb : b.length = 8) (hab : (a == b) = true)
    (B : Below A₀ base outer h₀) (F : Fr h₀ L s.heap m) (X : (hd.heap_39 w.params).In h₀) (N : News h₀ L s.heap news) (T : Top hd.view_39 LN mean mg mb h₀) (hk : cs.kind = .function) (hdp : dp + 9 < recursionLimit) (hun : un + 99 < cLine)
    (hret : ∀ (t : Tok) (h' : Heap) (tk' : Nat), Fr h₀ L h' m → News h₀ L h' news → Q (.int 0 t) { s with heap := h', toks := tk' }) :
    wpAny (model PySem.Challenge.rw_xe0026_01.row.prog w) (ktrTop dp un gd cn cs L aa ccd cl outer) (call (.ref 99) [.str a ta, .str b tb, .int 16 tc]) Q E s := by
  revert X; k_fill; intro X
  refine wpAny_call ?_
  k_dflt cell_enter
  (w_top off; k_with_none; (k_with "exec While BoolOp" => ((k_here; k_dflt (refine whl_start 8 ?_)))); (k_with "subscriptTail Name Slice str ref" => ((k_here; (with_reducible show wpAny _ _ (subscriptTail _ (Expr.Slice none (some (Expr.BoolOp _ _ _)) none _) _ _) _ _ _); (with_reducible rename Fr _ _ _ _ => F'); (with_reducible rename News _ _ _ _ => N'); (refine sl_nn (hsz := ?n1hsz) (s := ⟨_, _, _, _, _⟩) F' N' ?_); (case n1hsz => size_fits); intro _ _ _ _ _))); (k_with "subscriptTail Name Slice str ref" => ((k_here; (with_reducible show wpAny _ _ (subscriptTail _ (Expr.Slice (some (Expr.Name _ _)) none none _) _ _) _ _ _); (with_reducible rename Fr _ _ _ _ => F'); (with_reducible rename News _ _ _ _ => N'); (refine sl_tail (h0 := ?n2h0) (h1 := ?n2h1) (hsz := ?n2hsz) (s := ⟨_, _, _, _, _⟩) F' N' ?_); (case n2h0 => omega); (case n2h1 => omega); (case n2hsz => size_fits); intro _ _ _ _ _ _ _))); (k_with "execs cons" => ((k_here; (first | with_reducible refine tok_add ?_ | (dsimp only; with_reducible refine tok_add ?_)); intro _))); (k_with "execs nil" => ((k_here; (first | with_reducible refine tok_add ?_ | (dsimp only; with_reducible refine tok_add ?_)); intro _))); (k_with "truthy bool" => ((k_here; (with_reducible refine truthy_same (by assumption) ?n5h0 ?n5h1 ?_); (case n5h0 => omega); (case n5h1 => omega)))); (k_with "truthy bool" => ((k_here; (with_reducible refine truthy_eqb (by assumption) ?_)))); (k_with "truthy str" => ((k_here; (with_reducible show wpAny _ _ (PySem.truthy (Value.str _ _)) _ _ _); first | (refine KXt.truthy_pos (K := 16777216) (by omega) (by omega) (Nat.le_refl _) ?_; intro _) | (refine truthy_nil (by omega) ?_; intro _)))); k_steps)
  all_goals exact hret _ _ _ (by k_asm) (by k_asm)
end
end Mine
end
section
open PySem PySem.W PyProof PyProof.Rows
namespace Mine
local macro_rules | `(tactic| walk_at "exec While BoolOp") => `(tactic| (k_here; k_dflt (refine whl_start 1 ?_)))
local macro_rules | `(tactic| walk_at "subscriptTail Name Slice str ref") => `(tactic| (k_here; (with_reducible show wpAny _ _ (subscriptTail _ (Expr.Slice none (some (Expr.BoolOp _ _ _)) none _) _ _) _ _ _); (with_reducible rename Fr _ _ _ _ => F'); (with_reducible rename News _ _ _ _ => N'); (refine sl_nn (hsz := ?hsz) (s := ⟨_, _, _, _, _⟩) F' N' ?_); (case hsz => size_fits); intro _ _ _ _ _))
local macro_rules | `(tactic| walk_at "subscriptTail Name Slice str ref") => `(tactic| (k_here; (with_reducible show wpAny _ _ (subscriptTail _ (Expr.Slice (some (Expr.Name _ _)) none none _) _ _) _ _ _); (with_reducible rename Fr _ _ _ _ => F'); (with_reducible rename News _ _ _ _ => N'); (refine sl_sn (i := 0) (slice0 _) (hsz := ?hsz) (s := ⟨_, _, _, _, _⟩) F' N' ?_); (case hsz => size_fits); intro _ _ _ _ _))
local macro_rules | `(tactic| walk_at "truthy bool") => `(tactic| (k_here; (with_reducible refine truthy_eqb (by assumption) ?_)))
local macro_rules | `(tactic| walk_at "truthy str") => `(tactic| (k_here; (with_reducible show wpAny _ _ (PySem.truthy (Value.str _ _)) _ _ _); (refine KXt.truthy_pos (K := 16777216) (by omega) (by omega) (Nat.le_refl _) ?_); intro _))
local macro_rules | `(tactic| walk_at "execs cons") => `(tactic| (k_here; (first | with_reducible refine tok_add ?_ | (dsimp only; with_reducible refine tok_add ?_)); intro _))
local macro_rules | `(tactic| walk_at "execs nil") => `(tactic| (k_here; (first | with_reducible refine tok_add ?_ | (dsimp only; with_reducible refine tok_add ?_)); intro _))
local macro_rules | `(tactic| walk_at "call type:list") => `(tactic| (k_here; (with_reducible show wpAny _ _ (call (Value.type _) [Value.ref _]) _ _ _); (rename IsRange _ _ _ _ _ _ _ _ => rgX); (with_unfolding_all refine' row_range ?k0 ?k1 ?k2 ?k3 ?k4 ?_); (case k0 => rfl); (case k1 => k_asm); (case k2 => k_asm); (case k3 => first | exact rgX | assumption); (case k4 => omega); k_whole; intro D' vs' c' h' tk' F' N' l1 hI'; (try k_lt l1); (try k_sweep)))
local macro_rules | `(tactic| walk_at "call ref") => `(tactic| (k_here; (with_reducible show wpAny _ _ (call (Value.ref 92) [Value.str _ _, Value.str _ _]) _ _ _); k_dflt (refine' sub_use ?ha ?hb ?k1 ?k2 ?k3 ?k4 ?k5 ?kK ?kd ?ku ?_; (case ha => exact item_len _ _); (case hb => exact item_len _ _); (case k1 => k_asm); (case k2 => k_asm); (case k3 => k_asm); (case k4 => k_asm); (case k5 => k_asm); (case kK => first | exact rfl | assumption); (case kd => ktr_room); (case ku => ktr_units)); intro t9 h9 tk9 F9 N9; (try dsimp only); (try k_fold)))
local macro_rules | `(tactic| kst_p) => `(tactic| ((try dsimp only); k_extra "state"))
theorem in_turn1 {a bc : Str} {bi d r mn kN : Int} {row0 row pre : List Int} (hinv : (d, r, mn, row) = inN a bc bi row0 pre.length) (hk : kN = 0 + (pre.length : Int)) (hl : row.length = 8) (h : inNew a bc d r row kN < mn) :
    (row.getD kN.toNat 0, inNew a bc d r row kN, inNew a bc d r row kN, row.set kN.toNat (inNew a bc d r row kN)) = inN a bc bi row0 (pre ++ [kN]).length ∧ (row.set kN.toNat (inNew a bc d r row kN)).length = 8 := by
  have e : kN = ((pre.length : Nat) : Int) := by omega
  subst e
  refine ⟨?_, by rw [List.length_set]; exact hl⟩
  rw [List.length_append, List.length_singleton]
  show _ = inStep a bc (inN a bc bi row0 pre.length) _
  rw [← hinv]
  simp only [inStep, if_pos h]
theorem in_turn2 {a bc : Str} {bi d r mn kN : Int} {row0 row pre : List Int} (hinv : (d, r, mn, row) = inN a bc bi row0 pre.length) (hk : kN = 0 + (pre.length : Int)) (hl : row.length = 8) (h : ¬ inNew a bc d r row kN < mn) :
    (row.getD kN.toNat 0, inNew a bc d r row kN, mn, row.set kN.toNat (inNew a bc d r row kN)) = inN a bc bi row0 (pre ++ [kN]).length ∧ (row.set kN.toNat (inNew a bc d r row kN)).length = 8 := by
  have e : kN = ((pre.length : Nat) : Int) := by omega
  subst e
  refine ⟨?_, by rw [List.length_set]; exact hl⟩
  rw [List.length_append, List.length_singleton]
  show _ = inStep a bc (inN a bc bi row0 pre.length) _
  rw [← hinv]
  simp only [inStep, if_neg h]
theorem out_turn {a b : Str} {pre : List Int} {r0 d r mn kN : Int} {row0 row : List Int} {n : Nat} (h0 : (r0, row0) = outN a b pre.length) (hk : kN = 0 + (pre.length : Int)) (hin : (d, r, mn, row) = inN a (Txt.item b kN) kN row0 n) (hn : n = 8) (hl : row.length = 8) :
    (r, row) = outN a b (pre ++ [kN]).length ∧ row.length = 8 := by
  subst hn
  have e : kN = ((pre.length : Nat) : Int) := by omega
  subst e
  have e2 : row0 = (outN a b pre.length).2 := congrArg Prod.snd h0
  subst e2
  refine ⟨?_, hl⟩
  rw [List.length_append, List.length_singleton]
  show (r, row) = ((inN a (Txt.item b _) _ (outN a b pre.length).2 8).2.1, (inN a (Txt.item b _) _ (outN a b pre.length).2 8).2.2.2)
  rw [← hin]
theorem no_over {a b : Str} {pre : List Int} {r0 d r mn kN : Int} {row0 row : List Int} {n m : Nat} (hmin : ∀ k : Nat, k < 8 → (inN a (Txt.item b k) k (outN a b k).2 8).2.2.1 ≤ 16) (h0 : (r0, row0) = outN a b pre.length) (hk : kN = 0 + (pre.length : Int)) (hin : (d, r, mn, row) = inN a (Txt.item b kN) kN row0 n) (hn : n = 8)
    (hlt : pre.length < m) (hm : m = 8) (h : 16 < mn) : False := by
  subst hn hm
  have e : kN = ((pre.length : Nat) : Int) := by omega
  subst e
  have e2 : row0 = (outN a b pre.length).2 := congrArg Prod.snd h0
  subst e2
  have := hmin pre.length hlt
  rw [← hin] at this
  exact absurd h (by show ¬ 16 < mn; have : mn ≤ 16 := this; omega)
theorem len8 {a : Str} (ha : a.length = 8) : (rangeKs 0 ((a.length : Int) - 0).toNat).length = 8 := by
  rw [rangeKs_length, ha]; rfl
theorem nat8 {a : Str} (ha : a.length = 8) : ((a.length : Int) - 0).toNat = 8 := by
  rw [ha]; rfl
theorem fin_ret {a b : Str} {h₀ : Heap} {L : Addr} {m : Str → Option Value} {news : List (Addr × Obj)} {s : Shared} {Q : Value → Shared → Prop} {r : Int} {row : List Int} {n tk t : Nat} {h' : Heap} {p : Addr × Obj}
    (hret : ∀ (t : Tok) (h' : Heap) (tk' : Nat), Fr h₀ L h' m → News h₀ L h' news → Q (.int (outN a b 8).1 t) { s with heap := h', toks := tk' }) (hin : (r, row) = outN a b n) (hn : n = 8) (F : Fr h₀ L h' m) (N : News h₀ L h' (p :: news)) :
    Q (.int r t) { s with heap := h', toks := tk } := by
  subst hn
  have e : r = (outN a b 8).1 := congrArg Prod.fst hin
  rw [e]
  exact hret t h' tk F fun q hq => N q (.tail _ hq)
section
variable {w : World} {mean : ExcName → Option Value} {mg mb : Str → Option Value} {a b : Str} {ta tb tc : Tok} {news : List (Addr × Obj)} {dp un : Nat} {gd : Option (List Code)} {cn : Str} {cs : Scope} {aa : Addr} {ccd : Value} {cl : List (Str × Addr)} {outer : List Env} {A₀ : Around} {base h₀ : Heap} {L : Addr} {m : Str → Option Value} {s : Shared} {Q E : Value → Shared → Prop}
set_option maxRecDepth 100000 in
set_option maxHeartbeats 8000000 in
theorem lev_diff (ha : a.length = 8) (hb : b.length = 8)
    (hab : (a == b) = false) (h0 : (Txt.item a 0 == Txt.item b 0) = false) (h7 : (Txt.item a (0 - 1) == Txt.item b (0 - 1)) = false)
    (hmin : ∀ k : Nat, k < 8 → (inN a (Txt.item b k) k (outN a b k).2 8).2.2.1 ≤ 16)
    (B : Below A₀ base outer h₀) (F : Fr h₀ L s.heap m) (X : (hd.heap_39 w.params).In h₀) (N : News h₀ L s.heap news) (T : Top hd.view_39 LN mean mg mb h₀) (hk : cs.kind = .function) (hdp : dp + 9 < recursionLimit) (hun : un + 99 < cLine)
    (hret : ∀ (t : Tok) (h' : Heap) (tk' : Nat), Fr h₀ L h' m → News h₀ L h' news → Q (.int (outN a b 8).1 t) { s with heap := h', toks := tk' }) :
    wpAny (model PySem.Challenge.rw_xe0026_01.row.prog w) (ktrTop dp un gd cn cs L aa ccd cl outer) (call (.ref 99) [.str a ta, .str b tb, .int 16 tc]) Q E s := by
  revert X; k_fill; intro X
  refine wpAny_call ?_
  k_dflt cell_enter
  k_with_none
  k_with "state" => exact ⟨rfl, rfl⟩
  k_with "state" => exact ⟨rfl, by assumption⟩
  k_with "state" => exact out_turn (by assumption) (by assumption) (by assumption) (len8 ha) (by assumption)
  k_with "state" => exact in_turn1 (by assumption) (by assumption) (by assumption) (by assumption)
  k_with "state" => exact in_turn2 (by assumption) (by assumption) (by assumption) (by assumption)
  k_with "pyIter ref" => (k_of "index" => k_state_given ["bindex", "bchar", "row!"] (fun bi bc row0 pre d r mn row => (d, r, mn, row) = inN a bc bi row0 pre.length ∧ row.length = 8) "distance" "result" "minimum" "row")
  k_with "pyIter ref" => (k_of "bindex" => k_state (fun pre r row => (r, row) = outN a b pre.length ∧ row.length = 8) "result" "row")
  (w_top off; k_steps)
  all_goals (try (exfalso; omega))
  · exact (no_over hmin (by assumption) (by assumption) (by assumption) (len8 ha) (by assumption) (nat8 hb) (by assumption)).elim
  · refine fin_ret hret (by assumption) ?_ (by k_asm) (by k_asm)
    exact len8 hb
end
end Mine
end
section
open PySem PySem.W PyProof PyProof.Rows
namespace Mine
set_option maxRecDepth 100000
open PySem.F in
theorem pa_Pattern : PlainAttrs "re.Pattern" :=
  ⟨⟨"object.__getattribute__", by rw [typeLookup_type, builtinLookup_eq_fast]; kernel_rfl, by decide +kernel⟩, by rw [typeLookup_type, builtinLookup_eq_fast]; kernel_rfl⟩
open PySem.F in
theorem pa_Match : PlainAttrs "re.Match" :=
  ⟨⟨"object.__getattribute__", by rw [typeLookup_type, builtinLookup_eq_fast]; kernel_rfl, by decide +kernel⟩, by rw [typeLookup_type, builtinLookup_eq_fast]; kernel_rfl⟩
theorem slot_search : Slot "re.Pattern" "search" "re.Pattern.search" :=
  .of (owner := "re.Pattern") (n := "search") (by rw [typeLookup_type, builtinLookup_eq_fast]; kernel_rfl) (by decide +kernel) (by decide +kernel) (by decide +kernel)
    (by first | exact .inl (by decide +kernel) | exact .inr (by decide +kernel)) (by rw [isSubtype_type]; kernel_rfl)
theorem type_search : typeOf (.builtin "re.Pattern.search") = pure (.type "method_descriptor") := by show builtinType _ = _; rw [builtinType_eq_fast]; kernel_rfl
theorem entry_search : entryFor table "re.Pattern.search" = some Builtin.«re.Pattern.search» := entryFor_of_tree (by kernel_rfl)
theorem slot_group : Slot "re.Match" "group" "re.Match.group" :=
  .of (owner := "re.Match") (n := "group") (by rw [typeLookup_type, builtinLookup_eq_fast]; kernel_rfl) (by decide +kernel) (by decide +kernel) (by decide +kernel)
    (by first | exact .inl (by decide +kernel) | exact .inr (by decide +kernel)) (by rw [isSubtype_type]; kernel_rfl)
theorem type_group : typeOf (.builtin "re.Match.group") = pure (.type "method_descriptor") := by show builtinType _ = _; rw [builtinType_eq_fast]; kernel_rfl
theorem entry_group : entryFor table "re.Match.group" = some Builtin.«re.Match.group» := entryFor_of_tree (by kernel_rfl)
theorem slot_span : Slot "re.Match" "span" "re.Match.span" :=
  .of (owner := "re.Match") (n := "span") (by rw [typeLookup_type, builtinLookup_eq_fast]; kernel_rfl) (by decide +kernel) (by decide +kernel) (by decide +kernel)
    (by first | exact .inl (by decide +kernel) | exact .inr (by decide +kernel)) (by rw [isSubtype_type]; kernel_rfl)
theorem type_span : typeOf (.builtin "re.Match.span") = pure (.type "method_descriptor") := by show builtinType _ = _; rw [builtinType_eq_fast]; kernel_rfl
theorem entry_span : entryFor table "re.Match.span" = some Builtin.«re.Match.span» := entryFor_of_tree (by kernel_rfl)
theorem owner_Pattern : Manifest.owners.lookup (String.ofList ['n', 'r', 'e', 't', 't', 'a', 'P', '.', 'e', 'r'].reverse) = some Manifest.sig_re_Pattern := by kernel_rfl
theorem owner_Match : Manifest.owners.lookup (String.ofList ['h', 'c', 't', 'a', 'M', '.', 'e', 'r'].reverse) = some Manifest.sig_re_Match := by kernel_rfl
theorem args_search (a b : Value) : argsOk "re.Pattern.search" ⟨[a, b], []⟩ := by
  unfold argsOk; rw [signature?_of (id := "re.Pattern.search") (n := ['h', 'c', 'r', 'a', 'e', 's']) (o := ['n', 'r', 'e', 't', 't', 'a', 'P', '.', 'e', 'r']) (by kernel_rfl) owner_Pattern]; kernel_rfl
theorem args_group (a b : Value) : argsOk "re.Match.group" ⟨[a, b], []⟩ := by
  unfold argsOk; rw [signature?_of (id := "re.Match.group") (n := ['p', 'u', 'o', 'r', 'g']) (o := ['h', 'c', 't', 'a', 'M', '.', 'e', 'r']) (by kernel_rfl) owner_Match]; kernel_rfl
theorem args_span (a b : Value) : argsOk "re.Match.span" ⟨[a, b], []⟩ := by
  unfold argsOk; rw [signature?_of (id := "re.Match.span") (n := ['n', 'a', 'p', 's']) (o := ['h', 'c', 't', 'a', 'M', '.', 'e', 'r']) (by kernel_rfl) owner_Match]; kernel_rfl
/-- the search's turns, without the semantics -/
noncomputable def drv : Nat → Sre.M → Option Sre.M
  | 0, _ => none
  | k + 1, m => if (m.runFor 4).outcome.isSome then some (m.runFor 4) else drv k (m.runFor 4)
section
open PySem.Builtin.Re PySem.Spec
variable {prog : Program} {w : World} {A : Around} {E : Value → Shared → Prop} {s : Shared}
theorem wp_drive : ∀ (k n : Nat) (m : Sre.M) {m' : Sre.M} {Q : Sre.M → Shared → Prop}, drv k m = some m' → k ≤ n → Q m' s → wpAny (model prog w) A (reDrive n m) Q E s
  | 0, _, _, _, _, h, _, _ => by cases h
  | k + 1, 0, _, _, _, _, hn, _ => absurd hn (Nat.not_succ_le_zero _)
  | k + 1, n + 1, m, m', Q, h, hn, hQ => by
    unfold reDrive reTurnSteps
    unfold drv at h
    cases e : (m.runFor 4).outcome.isSome with
    | true =>
      rw [e, if_pos rfl] at h
      cases h
      dsimp only
      rw [e, if_pos rfl]
      exact wpAny_pure hQ
    | false =>
      rw [e, if_neg Bool.false_ne_true] at h
      dsimp only
      rw [e, if_neg Bool.false_ne_true]
      exact wpAny_bind (wpAny_rule (wp_drive k n _ h (Nat.le_of_succ_le_succ hn) hQ))
theorem wp_told {c : Nat → Bool} {f : Nat → String} {Q : PUnit → Shared → Prop} (h : Q ⟨⟩ s) : ∀ l : List Nat, wpAny (model prog w) A (forIn l PUnit.unit fun i _ => do
    if c i then rule (f i)
    pure (ForInStep.yield PUnit.unit)) Q E s
  | [] => by
    rw [List.forIn_nil]
    exact wpAny_pure h
  | i :: l => by
    rw [List.forIn_cons]
    refine wpAny_bind ?_
    cases c i with
    | true => exact wpAny_bind (wpAny_rule (wpAny_pure (wp_told h l)))
    | false => exact wpAny_pure (wp_told h l)
theorem wp_toEnd {k : Nat} {m m' : Sre.M} {r : Option Sre.M} {Q : Option Sre.M → Shared → Prop} (h : drv k m = some m') (hk : k ≤ 2 ^ 64) (ho : (m'.outcome = some .matched ∧ r = some m') ∨ (m'.outcome = some .failed ∧ r = none)) (hQ : Q r s) :
    wpAny (model prog w) A (reRunToEnd m) Q E s := by
  unfold reRunToEnd
  refine wpAny_bind (wp_drive k _ m h hk ?_)
  refine wpAny_bind (wp_told ?_ _)
  rcases ho with ⟨e, rfl⟩ | ⟨e, rfl⟩
  · rw [e]; exact wpAny_pure hQ
  · rw [e]; exact wpAny_pure hQ
end
end Mine
end
section
open PySem PySem.W PyProof PyProof.Rows
namespace Mine
set_option maxRecDepth 100000
noncomputable def spansOf (g : Nat) (m : Sre.M) : List Value := (List.range g).flatMap fun g =>
    match if ((2 * g + 1 : Nat) : Int) ≤ m.lastmark then (m.marks.getD (2 * g) none, m.marks.getD (2 * g + 1) none) else (none, none) with
    | (some b, some e) => [rawInt b, rawInt e]
    | _ => [rawInt (-1), rawInt (-1)]
noncomputable def wrongSpan (g : Nat) (m : Sre.M) : Bool := (List.range g).any (fun g => match m.marks.getD (2 * g) none, m.marks.getD (2 * g + 1) none with | some b, some e => ((2 * g + 1 : Nat) : Int) ≤ m.lastmark && e < b | _, _ => false)
noncomputable def matchedB (m : Sre.M) : Option Bool := match m.outcome with
  | some .matched => some true
  | some .failed => some false
  | _ => none
/-- what a search finds: nothing, or the last index and the spans -/
noncomputable def found (code : Array Nat) (g : Nat) (x : Str) : Option (Option (Int × List Int)) := match drv 4000 (Sre.forSearch code x.cps g 0 x.length false) with
  | some m => match matchedB m with
    | some true => if wrongSpan g m then none else some (some (m.lastindex, (rawInt m.start :: rawInt m.handed :: spansOf g m).map PySem.Builtin.Re.reRawOf))
    | some false => some none
    | none => none
  | none => none
theorem found_some {code : Array Nat} {g : Nat} {x : Str} {li : Int} {sp : List Int} (h : found code g x = some (some (li, sp))) :
    ∃ m, drv 4000 (Sre.forSearch code x.cps g 0 x.length false) = some m ∧ m.outcome = some .matched ∧ wrongSpan g m = false ∧ m.lastindex = li ∧ (rawInt m.start :: rawInt m.handed :: spansOf g m).map PySem.Builtin.Re.reRawOf = sp := by
  unfold found at h
  split at h
  · rename_i m e
    split at h
    · rename_i e2
      split at h
      · cases h
      · rename_i e3
        cases h
        refine ⟨m, e, ?_, by simpa using e3, rfl, rfl⟩
        unfold matchedB at e2
        split at e2 <;> simp_all
    · cases h
    · cases h
  · cases h
theorem found_none {code : Array Nat} {g : Nat} {x : Str} (h : found code g x = some none) :
    ∃ m, drv 4000 (Sre.forSearch code x.cps g 0 x.length false) = some m ∧ m.outcome = some .failed := by
  unfold found at h
  split at h
  · rename_i m e
    split at h
    · split at h <;> cases h
    · rename_i e2
      refine ⟨m, e, ?_⟩
      unfold matchedB at e2
      split at e2 <;> simp_all
    · cases h
  · cases h
/-- a raw list of ints is its ints -/
theorem spans_raw (g : Nat) (m : Sre.M) : ∀ v ∈ rawInt m.start :: rawInt m.handed :: spansOf g m, v = rawInt (PySem.Builtin.Re.reRawOf v) := by
  intro v hv
  have : ∃ i, v = rawInt i := by
    rcases List.mem_cons.mp hv with rfl | hv
    · exact ⟨_, rfl⟩
    rcases List.mem_cons.mp hv with rfl | hv
    · exact ⟨_, rfl⟩
    obtain ⟨j, _, hj⟩ := List.mem_flatMap.mp hv
    split at hj <;> (simp only [List.mem_cons, List.not_mem_nil, or_false] at hj; rcases hj with rfl | rfl <;> exact ⟨_, rfl⟩)
  obtain ⟨i, rfl⟩ := this
  rfl
theorem raw_map (l : List Value) (h : ∀ v ∈ l, v = rawInt (PySem.Builtin.Re.reRawOf v)) : l = (l.map PySem.Builtin.Re.reRawOf).map rawInt := by
  induction l with
  | nil => rfl
  | cons v r ih => rw [List.map_cons, List.map_cons, ← ih fun u hu => h u (.tail _ hu), ← h v (.head _)]
theorem spans_len (g : Nat) (m : Sre.M) : (spansOf g m).length ≤ 2 * g := by
  unfold spansOf
  rw [List.length_flatMap]
  have : ∀ l : List Nat, (l.map fun g => (match if ((2 * g + 1 : Nat) : Int) ≤ m.lastmark then (m.marks.getD (2 * g) none, m.marks.getD (2 * g + 1) none) else (none, none) with
    | (some b, some e) => [rawInt b, rawInt e]
    | _ => [rawInt (-1), rawInt (-1)]).length).sum ≤ 2 * l.length := by
    intro l
    induction l with
    | nil => exact Nat.le_refl _
    | cons a r ih =>
      rw [List.map_cons, List.sum_cons, List.length_cons]
      have h1 : (match if ((2 * a + 1 : Nat) : Int) ≤ m.lastmark then (m.marks.getD (2 * a) none, m.marks.getD (2 * a + 1) none) else (none, none) with
        | (some b, some e) => [rawInt b, rawInt e]
        | _ => [rawInt (-1), rawInt (-1)]).length = 2 := by split <;> rfl
      omega
  have h := this (List.range g)
  rw [List.length_range] at h
  exact h
section
open PySem.Builtin.Re PySem.Spec PySem.Builtin
variable {prog : Program} {w : World} {A : Around} {E : Value → Shared → Prop} {s : Shared} {P C : Addr} {d d' : Option Addr} {p0 p1 p3 p4 : Value} {g : Int} {tg t6 t : Tok} {items : Array Value} {n : Nat} {sl sl' : Array (Option Value)} {x : Str} {code : Array Nat} {Q : Value → Shared → Prop}
theorem wp_target {Q : ReTarget → Shared → Prop} (hP : s.heap.get? P = some ⟨.type "re.Pattern", d, .fields #[p0, p1, .int g tg, p3, p4, .ref C, .int 0 t6], sl⟩) (hC : s.heap.get? C = some ⟨.type "tuple", d', .seq items n, sl'⟩)
    (hcode : (items.map reRawOf).map (·.toNat) = code) (hx : x.length < 2 ^ 63 - 1)
    (hQ : Q { pattern := .ref P, string := .str x t, code, text := x.cps, kind := 0, groups := g.toNat, pos := 0, lim := x.length } s) :
    wpAny (model prog w) A (reTarget "re.Pattern.search" "search" ⟨[.ref P, .str x t], []⟩) Q E s := by
  unfold reTarget
  dsimp only
  refine wpAny_bind (wpAny_of_eq (a := [some (.str x t), none, none]) (by rfl) ?_)
  dsimp only
  refine wpAny_bind (wpAny_pure ?_)
  refine wpAny_bind (wpAny_pure ?_)
  refine wpAny_bind ?_
  unfold fieldsOf
  dsimp only
  refine wpAny_bind (wpAny_load hP ?_)
  dsimp only
  refine wpAny_pure ?_
  refine wpAny_bind ?_
  unfold reTextOf asStr?
  refine wpAny_bind (wpAny_pure ?_)
  dsimp only
  refine wpAny_pure ?_
  dsimp only
  rw [if_neg (by rw [Bool.and_eq_true]; intro h; exact absurd h.2 (by decide)), if_neg (by rw [Bool.and_eq_true]; intro h; have h1 : (0 == 1) = true := h.1; exact absurd h1 (by decide))]
  refine wpAny_bind ?_
  unfold reNoCollectionInside
  rw [if_neg (by decide)]
  refine wpAny_pure ?_
  refine wpAny_bind ?_
  unfold reRawItems seqItems?
  refine wpAny_bind ?_
  show wpAny _ _ (do
    match (← load C).data with
    | .seq xs _ => pure (some xs)
    | _ => pure none) _ _ _
  refine wpAny_bind (wpAny_load hC ?_)
  dsimp only
  refine wpAny_pure ?_
  refine wpAny_pure ?_
  refine wpAny_pure ?_
  have e : (⟨.ref P, .str x t, ((some items).getD #[] |>.map reRawOf).map (·.toNat), x.cps, 0, reRawNat (#[p0, p1, Value.int g tg, p3, p4, Value.ref C, Value.int 0 t6].getD 2 Value.none), min (Int.toNat 0) x.cps.size, min (2 ^ 63 - 1 : Int).toNat x.cps.size⟩ : ReTarget) =
      { pattern := .ref P, string := .str x t, code, text := x.cps, kind := 0, groups := g.toNat, pos := 0, lim := x.length } := by
    have e1 : min (Int.toNat 0) x.cps.size = 0 := by simp
    have e2 : min (2 ^ 63 - 1 : Int).toNat x.cps.size = x.length := by
      have : x.cps.size = x.length := rfl
      omega
    rw [e1, e2, ← hcode]
    rfl
  rw [← e] at hQ
  exact hQ
/-- a match's object -/
noncomputable abbrev matchObj (v : Value) (P : Addr) (l li : Int) (T : Addr) : Obj := { cls := .type "re.Match", data := .fields #[v, .ref P, rawInt 0, rawInt l, rawInt li, .ref T] }
noncomputable abbrev spanTup (sp : List Int) : Obj := { cls := .type "tuple", data := .seq (sp.map rawInt).toArray }
theorem search_none (hT : s.TypeIs (.ref P) "re.Pattern") (hP : s.heap.get? P = some ⟨.type "re.Pattern", d, .fields #[p0, p1, .int g tg, p3, p4, .ref C, .int 0 t6], sl⟩) (hC : s.heap.get? C = some ⟨.type "tuple", d', .seq items n, sl'⟩)
    (hcode : (items.map reRawOf).map (·.toNat) = code) (hx : x.length < 2 ^ 63 - 1) (h : found code g.toNat x = some none) (hQ : Q .none s) :
    wpAny (model prog w) A (call (.builtin "re.Pattern.search") [.ref P, .str x t]) Q E s := by
  obtain ⟨m, hd, ho⟩ := found_none h
  refine call_meetsIn slot_search hT entry_search (args_search _ _) (S := fun A R s => wpAny (model prog w) A.in1 (Builtin.«re.Pattern.search» ⟨[.ref P, .str x t], []⟩) (fun fin s' => match fin with | .done f => R (.ok f) s' | .again c' => c'.quiet = true ∧ codeAny (model prog w) A c' R s') (fun e s' => R (.error e) s') s) (fun _ _ _ h => h) ?_
  unfold Builtin.«re.Pattern.search»
  refine wpAny_bind (wp_target hP hC hcode hx ?_)
  unfold reAnswer
  refine wpAny_bind (wp_toEnd hd (by decide) (.inr ⟨ho, rfl⟩) ?_)
  exact wpAny_pure hQ
theorem search_some {li : Int} {sp : List Int} (hT : s.TypeIs (.ref P) "re.Pattern") (hP : s.heap.get? P = some ⟨.type "re.Pattern", d, .fields #[p0, p1, .int g tg, p3, p4, .ref C, .int 0 t6], sl⟩) (hC : s.heap.get? C = some ⟨.type "tuple", d', .seq items n, sl'⟩)
    (hcode : (items.map reRawOf).map (·.toNat) = code) (hx : x.length < 2 ^ 63 - 1) (hg : g.toNat < 100) (h : found code g.toNat x = some (some (li, sp)))
    (hQ : Q (.ref (s.heap.objs.size + 1)) { s with heap := (s.heap.push (spanTup sp)).push (matchObj (.str x t) P x.length li s.heap.objs.size) }) :
    wpAny (model prog w) A (call (.builtin "re.Pattern.search") [.ref P, .str x t]) Q E s := by
  obtain ⟨m, hd, ho, hw, rfl, rfl⟩ := found_some h
  refine call_meetsIn slot_search hT entry_search (args_search _ _) (S := fun A R s => wpAny (model prog w) A.in1 (Builtin.«re.Pattern.search» ⟨[.ref P, .str x t], []⟩) (fun fin s' => match fin with | .done f => R (.ok f) s' | .again c' => c'.quiet = true ∧ codeAny (model prog w) A c' R s') (fun e s' => R (.error e) s') s) (fun _ _ _ h => h) ?_
  unfold Builtin.«re.Pattern.search»
  refine wpAny_bind (wp_target hP hC hcode hx ?_)
  unfold reAnswer
  refine wpAny_bind (wp_toEnd hd (by decide) (.inl ⟨ho, rfl⟩) ?_)
  dsimp only
  refine wpAny_bind ?_
  unfold reNewMatch
  dsimp only
  rw [if_neg (by show ¬ wrongSpan g.toNat m = true; rw [hw]; exact Bool.false_ne_true)]
  have hl := raw_map _ (spans_raw g.toNat m)
  have hz : (rawInt m.start :: rawInt m.handed :: spansOf g.toNat m).length ≤ sizeLine := by
    have : (spansOf g.toNat m).length ≤ 2 * g.toNat := spans_len _ _
    rw [List.length_cons, List.length_cons, sizeLine_eq]
    omega
  refine wpAny_bind (wpAny_newTuple ?_ hz)
  unfold newFields
  refine wpAny_newObj_type ?_ (by size_fits)
  rw [Heap.size_push]
  refine wpAny_pure ?_
  show Q _ _
  unfold spanTup at hQ
  rw [← hl] at hQ
  exact hQ
/-- a place of a match -/
noncomputable abbrev grp (x : Str) (sp : List Int) (i : Nat) : Str := ⟨x.cps.extract (sp.getD (2 * i) (-1)).toNat (sp.getD (2 * i + 1) (-1)).toNat⟩
theorem spans_back (sp : List Int) : ((sp.map rawInt).toArray.map reRawOf) = sp.toArray := by
  apply Array.ext'
  simp [Function.comp_def, rawInt, reRawOf]
section
variable {M T : Addr} {l li : Int} {sp : List Int} {dm dt : Option Addr} {nt : Nat} {slm slt : Array (Option Value)}
theorem wp_found {Q : ReFound → Shared → Prop} (hM : s.heap.get? M = some (matchObj (.str x t) P l li T)) (hS : s.heap.get? T = some (spanTup sp)) (hQ : Q ⟨#[.str x t, .ref P, rawInt 0, rawInt l, rawInt li, .ref T], sp.toArray⟩ s) :
    wpAny (model prog w) A (reFound (.ref M)) Q E s := by
  unfold reFound
  refine wpAny_bind ?_
  unfold fieldsOf
  dsimp only
  refine wpAny_bind (wpAny_load hM ?_)
  dsimp only
  refine wpAny_pure ?_
  refine wpAny_bind ?_
  unfold reRawItems seqItems?
  refine wpAny_bind ?_
  show wpAny _ _ (do
    match (← load T).data with
    | .seq xs _ => pure (some xs)
    | _ => pure none) _ _ _
  refine wpAny_bind (wpAny_load hS ?_)
  dsimp only
  refine wpAny_pure ?_
  refine wpAny_pure ?_
  refine wpAny_pure ?_
  rw [show ((some (sp.map rawInt).toArray).getD #[]).map reRawOf = sp.toArray from spans_back sp]
  exact hQ
theorem wp_number {Q : Nat → Shared → Prop} {fs : Array Value} {i : Nat} {u : Tok} (hi : 2 * i < sp.length) (hQ : Q i s) : wpAny (model prog w) A (reGroupNumber ⟨fs, sp.toArray⟩ (.int i u)) Q E s := by
  unfold reGroupNumber
  refine wpAny_bind (wpAny_of_eq (a := some (i : Int)) (by rfl) ?_)
  dsimp only
  rw [if_pos (show (some (i : Int)).isSome = true from rfl)]
  refine wpAny_bind (wpAny_of_eq (a := (i : Int)) (by rfl) ?_)
  rw [if_neg (by
    simp only [Bool.or_eq_true, decide_eq_true_eq, List.size_toArray]
    omega)]
  rw [show ((i : Int)).toNat = i from by omega]
  exact wpAny_pure hQ
theorem group_wp {i : Nat} {u : Tok} (hT : s.TypeIs (.ref M) "re.Match") (hM : s.heap.get? M = some (matchObj (.str x t) P l li T)) (hS : s.heap.get? T = some (spanTup sp)) (hi : 2 * i < sp.length)
    (hno : (sp.getD (2 * i) (-1) < 0 ∨ sp.getD (2 * i + 1) (-1) < 0) → Q .none s)
    (hyes : ¬ (sp.getD (2 * i) (-1) < 0 ∨ sp.getD (2 * i + 1) (-1) < 0) → (grp x sp i).length ≤ sizeLine ∧ Q (.str (grp x sp i) s.toks) { s with toks := s.toks + 1 }) :
    wpAny (model prog w) A (call (.builtin "re.Match.group") [.ref M, .int i u]) Q E s := by
  refine call_meetsIn slot_group hT entry_group (args_group _ _) (S := fun A R s => wpAny (model prog w) A.in1 (Builtin.«re.Match.group» ⟨[.ref M, .int i u], []⟩) (fun fin s' => match fin with | .done f => R (.ok f) s' | .again c' => c'.quiet = true ∧ codeAny (model prog w) A c' R s') (fun e s' => R (.error e) s') s) (fun _ _ _ h => h) ?_
  unfold Builtin.«re.Match.group» noKeywords
  refine wpAny_bind ?_
  dsimp only
  rw [if_pos (show List.isEmpty ([] : List (Str × Value)) = true from rfl)]
  refine wpAny_pure ?_
  refine wpAny_bind (wp_found hM hS ?_)
  refine wpAny_bind (wp_number hi ?_)
  refine wpAny_bind ?_
  unfold reGroupText
  dsimp only
  have e1 : sp.toArray.getD (2 * i) (-1) = sp.getD (2 * i) (-1) := by simp
  have e2 : sp.toArray.getD (2 * i + 1) (-1) = sp.getD (2 * i + 1) (-1) := by simp
  rw [e1, e2]
  by_cases hb : sp.getD (2 * i) (-1) < 0 ∨ sp.getD (2 * i + 1) (-1) < 0
  · rw [if_pos (by simpa using hb)]
    refine wpAny_pure (wpAny_pure ?_)
    exact hno hb
  · rw [if_neg (by simpa using hb)]
    obtain ⟨hz, hq⟩ := hyes hb
    refine wpAny_bind ?_
    show wpAny _ _ (reTextOf (.str x t)) _ _ _
    unfold reTextOf asStr?
    refine wpAny_bind (wpAny_pure ?_)
    dsimp only
    refine wpAny_pure ?_
    unfold reSlice
    rw [if_pos (show (0 == 0) = true from rfl)]
    refine wpAny_mkStr ?_ hz
    exact wpAny_pure hq
theorem span_wp {u : Tok} (hT : s.TypeIs (.ref M) "re.Match") (hM : s.heap.get? M = some (matchObj (.str x t) P l li T)) (hS : s.heap.get? T = some (spanTup sp)) (hi : 2 * 0 < sp.length)
    (hQ : Q (.ref s.heap.objs.size) { s with heap := s.heap.push { cls := .type "tuple", data := .seq #[.int (sp.getD 0 (-1)) s.toks, .int (sp.getD 1 (-1)) (s.toks + 1)] }, toks := s.toks + 1 + 1 }) :
    wpAny (model prog w) A (call (.builtin "re.Match.span") [.ref M, .int 0 u]) Q E s := by
  refine call_meetsIn slot_span hT entry_span (args_span _ _) (S := fun A R s => wpAny (model prog w) A.in1 (Builtin.«re.Match.span» ⟨[.ref M, .int 0 u], []⟩) (fun fin s' => match fin with | .done f => R (.ok f) s' | .again c' => c'.quiet = true ∧ codeAny (model prog w) A c' R s') (fun e s' => R (.error e) s') s) (fun _ _ _ h => h) ?_
  unfold Builtin.«re.Match.span» reOneGroup
  refine wpAny_bind ?_
  refine wpAny_bind (wpAny_of_eq (a := (.ref M, [.int 0 u])) (by rfl) ?_)
  dsimp only
  refine wpAny_bind (wp_found hM hS ?_)
  refine wpAny_bind (wp_number (i := 0) hi ?_)
  refine wpAny_pure ?_
  dsimp only
  have e1 : sp.toArray.getD (2 * 0) (-1) = sp.getD 0 (-1) := by simp
  have e2 : sp.toArray.getD (2 * 0 + 1) (-1) = sp.getD 1 (-1) := by simp
  rw [e1, e2]
  refine wpAny_bind (wpAny_mkInt ?_)
  refine wpAny_bind (wpAny_mkInt ?_)
  refine wpAny_bind (wpAny_newTuple ?_)
  exact wpAny_pure hQ
end
end
noncomputable def code55 : Array Nat := #[14, 8, 1, 2, 4294967295, 1, 1, 46, 0, 16, 46, 24, 9, 1, 4294967295, 13, 4, 8, 0, 0, 1, 6, 5, 1]
noncomputable def code36 : Array Nat := #[14, 4, 0, 1, 6, 6, 0, 23, 14, 0, 1, 17, 0, 13, 6, 16, 45, 16, 43, 0, 17, 1, 18, 17, 2, 13, 4, 8, 0, 0, 24, 9, 0, 1, 13, 4, 8, 0, 0, 1, 17, 3, 24, 6, 0, 1, 16, 58, 1, 23, 17, 0, 1, 17, 4, 13, 4, 8, 0, 0, 13, 4, 8, 0, 0, 17, 5, 18, 6, 5, 1]
example : found code55 0 ⟨#[97, 98, 99, 100, 46, 57, 48, 55]⟩ = some (some (-1, [4, 8])) := by decide +kernel
example : found code36 3 ⟨#[43, 48, 57, 58, 48, 48]⟩ = some (some (3, [0, 6, 0, 1, 1, 3, 4, 6])) := by decide +kernel
end Mine
end
section
open PySem PySem.W PyProof PyProof.Rows
set_option maxRecDepth 100000
namespace Mine
theorem slot_mb_get : Slot "member_descriptor" "__get__" "member_descriptor.__get__" :=
  .of (owner := "member_descriptor") (n := "__get__") (by rw [typeLookup_type, builtinLookup_eq_fast]; kernel_rfl) (by decide +kernel) (by decide +kernel) (by decide +kernel)
    (by first | exact .inl (by decide +kernel) | exact .inr (by decide +kernel)) (by rw [isSubtype_type]; kernel_rfl)
theorem slot_mb_set : Slot "member_descriptor" "__set__" "member_descriptor.__set__" :=
  .of (owner := "member_descriptor") (n := "__set__") (by rw [typeLookup_type, builtinLookup_eq_fast]; kernel_rfl) (by decide +kernel) (by decide +kernel) (by decide +kernel)
    (by first | exact .inl (by decide +kernel) | exact .inr (by decide +kernel)) (by rw [isSubtype_type]; kernel_rfl)
theorem entry_mb_get : entryFor table "member_descriptor.__get__" = some Builtin.«member_descriptor.__get__» := entryFor_of_tree (by kernel_rfl)
theorem args_mb_get (a b c : Value) : argsOk "member_descriptor.__get__" ⟨[a, b, c], []⟩ := by unfold argsOk; kernel_rfl
theorem type_string : typeOf (.builtin "re.Match.string") = pure (.type "member_descriptor") := by kernel_rfl
theorem entry_string : entryFor table "re.Match.string" = some Builtin.«re.Match.string» := entryFor_of_tree (by kernel_rfl)
theorem owner_string : (".".intercalate ("re.Match.string".cutAt '.').dropLast) = "re.Match" := by
  have e0 : "re.Match.string".cutAt '.' = ["re", "Match", "string"] := by first | rfl | decide +kernel
  rw [e0]; decide +kernel
theorem lk_string : typeLookup (.type "re.Match") "string" = pure (some (.builtin "re.Match.string")) := by rw [typeLookup_type, builtinLookup_eq_fast]; kernel_rfl
theorem slot_Match_ga : Slot "re.Match" "__getattribute__" "object.__getattribute__" :=
  .of (owner := "object") (n := "__getattribute__") (by rw [typeLookup_type, builtinLookup_eq_fast]; kernel_rfl) (by decide +kernel) (by decide +kernel) (by decide +kernel)
    (by first | exact .inl (by decide +kernel) | exact .inr (by decide +kernel)) (by rw [isSubtype_type]; kernel_rfl)
theorem sub_Match : isSubtype (.type "re.Match") (.type "re.Match") = pure true := by rw [isSubtype_type]; kernel_rfl
section
variable {prog : Program} {w : World} {A : Around} {E : Value → Shared → Prop} {h : Heap} {g : Array GenState} {d : Drawn} {t : Nat} {os : OsState} {a : Addr} {o : Obj} {vs : Array Value} {a0 : Value}
theorem string_get {R : Result → Shared → Prop} (hx : h.get? a = some o) (hc : o.cls = .type "re.Match") (hd : o.data = .fields vs) (h0 : vs[0]? = some a0) (hnd : (a0 == doubtfulMember) = false) (hq : R (.ok (.ret a0)) ⟨h, g, d, t, os⟩) :
    codeAny (model prog w) A (.call (.builtin "member_descriptor.__get__") ⟨[.builtin "re.Match.string", .ref a, .type "re.Match"], []⟩) R ⟨h, g, d, t, os⟩ := by
  have hT : (⟨h, g, d, t, os⟩ : Shared).TypeIs (.ref a) "re.Match" := ⟨_, hx, hc⟩
  have hT5 : (⟨h, g, d, t, os⟩ : Shared).TypeIs (.builtin "re.Match.string") "member_descriptor" := type_string
  have f8 : isSubtype (.type "re.Match") (.type (".".intercalate ("re.Match.string".cutAt '.').dropLast)) = pure true := by rw [owner_string]; exact sub_Match
  refine codeAny_call_builtin slot_mb_get.plain entry_mb_get (slot_mb_get.check _ _ _ _ _ _ _ _ hT5 (args_mb_get _ _ _) ?_)
  repeat (any_goals (first | assumption | wp_step))
  refine ⟨Code.quiet_builtin _ (by decide +kernel), codeAny_builtin entry_string ?_⟩
  unfold Builtin.«re.Match.string»
  repeat (any_goals (first | assumption | with_reducible refine wpAny_field hx hd h0 ?_ | wp_step))
  rw [hd]
  refine wpAny_pure ?_
  rw [h0]
  refine wpAny_pure ?_
  exact wpAny_pure hq
theorem string_entry {tk : Tok} {Q : Fin → Shared → Prop} (hx : h.get? a = some o) (hc : o.cls = .type "re.Match") (hd : o.data = .fields vs) (h0 : vs[0]? = some a0) (hnd : (a0 == doubtfulMember) = false) (hq : Q (.done (.ret a0)) ⟨h, g, d, t, os⟩) :
    wpAny (model prog w) A (Builtin.«object.__getattribute__» ⟨[.ref a, .str "string" tk], []⟩) Q E ⟨h, g, d, t, os⟩ := by
  have hT : (⟨h, g, d, t, os⟩ : Shared).TypeIs (.ref a) "re.Match" := ⟨_, hx, hc⟩
  have hT5 : (⟨h, g, d, t, os⟩ : Shared).TypeIs (.builtin "re.Match.string") "member_descriptor" := type_string
  have f4 := lk_string
  have f5 := type_string
  have f6 := slot_mb_get.lookup
  have f7 := slot_mb_set.lookup
  repeat (any_goals (first | assumption | wp_step))
  refine string_get hx hc hd h0 hnd ?_
  repeat (any_goals (first | assumption | wp_step))
theorem entry_oga : entryFor table "object.__getattribute__" = some Builtin.«object.__getattribute__» := entryFor_of_tree (by kernel_rfl)
theorem args_oga (a b : Value) : argsOk "object.__getattribute__" ⟨[a, b], []⟩ := by unfold argsOk; kernel_rfl
theorem string_call {tk : Tok} {R : Result → Shared → Prop} (hx : h.get? a = some o) (hc : o.cls = .type "re.Match") (hd : o.data = .fields vs) (h0 : vs[0]? = some a0) (hnd : (a0 == doubtfulMember) = false) (hq : R (.ok (.ret a0)) ⟨h, g, d, t, os⟩) :
    codeAny (model prog w) A (.call (.builtin "object.__getattribute__") ⟨[.ref a, .str "string" tk], []⟩) R ⟨h, g, d, t, os⟩ :=
  codeAny_call_builtin slot_Match_ga.plain entry_oga (slot_Match_ga.check _ _ _ _ _ _ _ _ (show (⟨h, g, d, t, os⟩ : Shared).TypeIs (.ref a) "re.Match" from ⟨_, hx, hc⟩) (args_oga _ _) (string_entry hx hc hd h0 hnd hq))
theorem string_by {tk : Tok} {fill expr : Bool} {x0 : Str} {u0 : Tok} {Q : Value → Shared → Prop} (hx : h.get? a = some o) (hc : o.cls = .type "re.Match") (hd : o.data = .fields vs) (h0 : vs[0]? = some (.str x0 u0))
    (hq : Q (.str x0 u0) ⟨h, g, d, t, os⟩) : wpAny (model prog w) A (getAttrBy (.ref a) (.str "string" tk) fill expr) Q E ⟨h, g, d, t, os⟩ := by
  have hT : (⟨h, g, d, t, os⟩ : Shared).TypeIs (.ref a) "re.Match" := ⟨_, hx, hc⟩
  have f2 := slot_Match_ga.lookup
  have f3 := slot_Match_ga.bind (.ref a)
  have hx0 : (expr && onTheHeap (Value.builtin "object.__getattribute__")) = false := by cases expr <;> rfl
  repeat (any_goals (first | assumption | wp_step))
  refine string_call hx hc hd h0 (by first | rfl | decide | simp [doubtfulMember, rawInt]) ?_
  repeat (any_goals (first | assumption | wp_step))
theorem string_attr {expr : Bool} {x0 : Str} {u0 : Tok} {Q : Value → Shared → Prop} (hx : h.get? a = some o) (hc : o.cls = .type "re.Match") (hd : o.data = .fields vs) (h0 : vs[0]? = some (.str x0 u0))
    (hq : Q (.str x0 u0) ⟨h, g, d, t + 1, os⟩) : wpAny (model prog w) A (getAttr (.ref a) "string" expr) Q E ⟨h, g, d, t, os⟩ := by
  unfold getAttr
  repeat (any_goals (first | assumption | with_reducible apply string_by hx hc hd h0 | wp_step))
end
theorem none_miss {prog : Program} {w : World} {A : Around} {E : Value → Shared → Prop} {s : Shared} {name : Str} {Q : Value → Shared → Prop} (hmiss : typeLookup (.type "NoneType") name = pure none) (hA : A.handled = none)
    (h : ∀ h' tk e, Heap.NewExcOf s.heap h' e "AttributeError" → E (.ref e) { s with heap := h', toks := tk }) (hsz : name.length + 100 ≤ sizeLine) :
    wpAny (model prog w) A (getAttr (.none) name false) Q E s := by
  obtain ⟨hp, g, d, tk, os⟩ := s
  have hT : ∀ s' : Shared, s'.TypeIs (.none) "NoneType" := fun _ => rfl
  have f1 := sub_AttributeError
  have f3 := F.slot_NoneType_getattribute.lookup
  have f4 := F.slot_NoneType_getattribute.bind (.none)
  have f5 := am_none_getattr_none
  unfold getAttr getAttrBy
  repeat (any_goals (first | assumption | ((with_reducible show wpAny _ _ (call (Value.builtin "object.__getattribute__") _ _) _ _ _); refine call_meets F.slot_NoneType_getattribute (hT _) F.entry_object_getattribute (F.args_object_getattribute_2 _ _) (meets_getattribute_miss_none name _ hmiss hsz) ⟨hA, fun h' tk' e hx => ?_⟩) | wp_step))
  obtain ⟨t', u', he⟩ := hx.there
  show wpAny _ _ (getattributeRaised _ _ _ _ _ _ _) _ _ _
  unfold getattributeRaised
  repeat (any_goals (first | assumption | wp_step))
  exact h _ _ _ hx.of
theorem none_span {prog : Program} {w : World} {A : Around} {E : Value → Shared → Prop} {s : Shared} {pl : Sem Bool} {Q : Value × List Value → Shared → Prop} (hA : A.handled = none)
    (h : ∀ h' tk e, Heap.NewExcOf s.heap h' e "AttributeError" → E (.ref e) { s with heap := h', toks := tk }) :
    wpAny (model prog w) A (getMethod (.none) (Str.ofString "span") pl) Q E s := by
  have hmiss : typeLookup (.type "NoneType") (Str.ofString "span") = pure none := am_miss_of_fast (by decide +kernel)
  have hT : s.TypeIs (.none) "NoneType" := rfl
  unfold getMethod
  refine wpAny_bind (wpAny_specialOf hT F.slot_NoneType_getattribute.lookup ?_)
  dsimp only
  rw [if_neg (by decide +kernel)]
  refine wpAny_bind (wpAny_specialOf hT am_none_getattr_none ?_)
  rw [if_neg (by decide)]
  refine wpAny_bind (wpAny_specialOf hT hmiss ?_)
  exact wpAny_bind (none_miss hmiss hA h (by decide +kernel))
end Mine
end
section
open PySem PySem.W PyProof PyProof.Rows
set_option maxRecDepth 100000
namespace Mine
theorem type_fname : typeOf (.builtin "function.__name__") = pure (.type "getset_descriptor") := by kernel_rfl
theorem entry_fname : entryFor table "function.__name__" = some Builtin.«function.__name__» := entryFor_of_tree (by kernel_rfl)
theorem owner_fname : (".".intercalate ("function.__name__".cutAt '.').dropLast) = "function" := by
  have e0 : "function.__name__".cutAt '.' = ["function", "__name__"] := by first | rfl | decide +kernel
  rw [e0]; decide +kernel
theorem lk_fname : typeLookup (.type "function") "__name__" = pure (some (.builtin "function.__name__")) := by rw [typeLookup_type, builtinLookup_eq_fast]; kernel_rfl
theorem slot_func_ga : Slot "function" "__getattribute__" "object.__getattribute__" :=
  .of (owner := "object") (n := "__getattribute__") (by rw [typeLookup_type, builtinLookup_eq_fast]; kernel_rfl) (by decide +kernel) (by decide +kernel) (by decide +kernel)
    (by first | exact .inl (by decide +kernel) | exact .inr (by decide +kernel)) (by rw [isSubtype_type]; kernel_rfl)
theorem sub_func : isSubtype (.type "function") (.type "function") = pure true := by rw [isSubtype_type]; kernel_rfl
section
variable {prog : Program} {w : World} {A : Around} {E : Value → Shared → Prop} {h : Heap} {g : Array GenState} {d : Drawn} {t : Nat} {os : OsState} {a : Addr} {o : Obj} {fd : FuncData}
theorem fname_get {R : Result → Shared → Prop} (hx : h.get? a = some o) (hc : o.cls = .type "function") (hd : o.data = .func fd) (hz : fd.name.length ≤ sizeLine) (hq : R (.ok (.ret (.str fd.name t))) ⟨h, g, d, t + 1, os⟩) :
    codeAny (model prog w) A (.call (.builtin "getset_descriptor.__get__") ⟨[.builtin "function.__name__", .ref a, .type "function"], []⟩) R ⟨h, g, d, t, os⟩ := by
  have hT : (⟨h, g, d, t, os⟩ : Shared).TypeIs (.ref a) "function" := ⟨_, hx, hc⟩
  have hT5 : (⟨h, g, d, t, os⟩ : Shared).TypeIs (.builtin "function.__name__") "getset_descriptor" := type_fname
  have f8 : isSubtype (.type "function") (.type (".".intercalate ("function.__name__".cutAt '.').dropLast)) = pure true := by rw [owner_fname]; exact sub_func
  refine codeAny_call_builtin F.slot_gs_get.plain F.entry_gs_get (F.slot_gs_get.check _ _ _ _ _ _ _ _ hT5 (F.args_gs_get _ _ _) ?_)
  repeat (any_goals (first | assumption | wp_step))
  refine ⟨Code.quiet_builtin _ (by decide +kernel), codeAny_builtin entry_fname ?_⟩
  unfold Builtin.«function.__name__» funcData
  refine wpAny_bind (wpAny_bind (wpAny_load hx ?_))
  rw [hd]
  refine wpAny_pure ?_
  unfold retStr
  refine wpAny_bind (wpAny_mkStr ?_ hz)
  exact wpAny_pure hq
theorem fname_entry {tk : Tok} {Q : Fin → Shared → Prop} (hx : h.get? a = some o) (hc : o.cls = .type "function") (hd : o.data = .func fd) (hz : fd.name.length ≤ sizeLine) (hq : Q (.done (.ret (.str fd.name t))) ⟨h, g, d, t + 1, os⟩) :
    wpAny (model prog w) A (Builtin.«object.__getattribute__» ⟨[.ref a, .str "__name__" tk], []⟩) Q E ⟨h, g, d, t, os⟩ := by
  have hT : (⟨h, g, d, t, os⟩ : Shared).TypeIs (.ref a) "function" := ⟨_, hx, hc⟩
  have hT5 : (⟨h, g, d, t, os⟩ : Shared).TypeIs (.builtin "function.__name__") "getset_descriptor" := type_fname
  have f4 := lk_fname
  have f5 := type_fname
  have f6 := F.slot_gs_get.lookup
  have f7 := F.slot_gs_set.lookup
  repeat (any_goals (first | assumption | wp_step))
  refine fname_get hx hc hd hz ?_
  repeat (any_goals (first | assumption | wp_step))
theorem fname_call {tk : Tok} {R : Result → Shared → Prop} (hx : h.get? a = some o) (hc : o.cls = .type "function") (hd : o.data = .func fd) (hz : fd.name.length ≤ sizeLine) (hq : R (.ok (.ret (.str fd.name t))) ⟨h, g, d, t + 1, os⟩) :
    codeAny (model prog w) A (.call (.builtin "object.__getattribute__") ⟨[.ref a, .str "__name__" tk], []⟩) R ⟨h, g, d, t, os⟩ :=
  codeAny_call_builtin slot_func_ga.plain entry_oga (slot_func_ga.check _ _ _ _ _ _ _ _ (show (⟨h, g, d, t, os⟩ : Shared).TypeIs (.ref a) "function" from ⟨_, hx, hc⟩) (args_oga _ _) (fname_entry hx hc hd hz hq))
theorem fname_by {tk : Tok} {fill expr : Bool} {Q : Value → Shared → Prop} (hx : h.get? a = some o) (hc : o.cls = .type "function") (hd : o.data = .func fd) (hz : fd.name.length ≤ sizeLine) (hq : Q (.str fd.name t) ⟨h, g, d, t + 1, os⟩) :
    wpAny (model prog w) A (getAttrBy (.ref a) (.str "__name__" tk) fill expr) Q E ⟨h, g, d, t, os⟩ := by
  have hT : (⟨h, g, d, t, os⟩ : Shared).TypeIs (.ref a) "function" := ⟨_, hx, hc⟩
  have f2 := slot_func_ga.lookup
  have f3 := slot_func_ga.bind (.ref a)
  have hx0 : (expr && onTheHeap (Value.builtin "object.__getattribute__")) = false := by cases expr <;> rfl
  repeat (any_goals (first | assumption | wp_step))
  refine fname_call hx hc hd hz ?_
  repeat (any_goals (first | assumption | wp_step))
theorem fname_attr {expr : Bool} {Q : Value → Shared → Prop} (hx : h.get? a = some o) (hc : o.cls = .type "function") (hd : o.data = .func fd) (hz : fd.name.length ≤ sizeLine) (hq : Q (.str fd.name (t + 1)) ⟨h, g, d, t + 1 + 1, os⟩) :
    wpAny (model prog w) A (getAttr (.ref a) "__name__" expr) Q E ⟨h, g, d, t, os⟩ := by
  unfold getAttr
  repeat (any_goals (first | assumption | with_reducible apply fname_by hx hc hd hz | wp_step))
end
end Mine
end
section
open PySem PySem.W PyProof PyProof.Rows
set_option maxRecDepth 100000
namespace Mine
theorem noDiv_None : typeLookup (.type "NoneType") (PySem.dunder "truediv") = pure none := by rw [typeLookup_type, builtinLookup_eq_fast]; kernel_rfl
theorem noRDiv_None : typeLookup (.type "NoneType") (dunderR "truediv") = pure none := by rw [typeLookup_type, builtinLookup_eq_fast]; kernel_rfl
theorem fills_None : fillsNumberSlot (.type "NoneType") "truediv" = pure false := by
  unfold fillsNumberSlot
  simp only [noDiv_None, noRDiv_None, pure_bind]
  rfl
theorem rdiv_None {prog : Program} {w : World} {A : Around} {E : Value → Shared → Prop} {s : Shared} {n : Int} {t : Tok} {Q : Value → Shared → Prop} (h : Q .notImplemented s) :
    wpAny (model prog w) A (call (.builtin "int.__rtruediv__") [.int n t, .none]) Q E s := by
  obtain ⟨hp, g, d, tk, os⟩ := s
  have hI : ∀ s' : Shared, s'.TypeIs (.int n t) "int" := fun _ => rfl
  refine call_meetsIn F.slot_int_rtruediv (hI _) F.entry_int_rtruediv (F.args_int_rtruediv_2 _ _) (S := fun A R s => wpAny (model prog w) A.in1 (Builtin.«int.__rtruediv__» ⟨[.int n t, .none], []⟩) (fun fin s' => match fin with | .done f => R (.ok f) s' | .again c' => c'.quiet = true ∧ codeAny (model prog w) A c' R s') (fun e s' => R (.error e) s') s) (fun _ _ _ h => h) ?_
  unfold Builtin.«int.__rtruediv__»
  repeat (any_goals (first | assumption | wp_step))
theorem try_none {prog : Program} {w : World} {A : Around} {E : Value → Shared → Prop} {s : Shared} {n : Int} {t : Tok} (hI : ∀ s' : Shared, s'.TypeIs (.int n t) "int") :
    wpAny (model prog w) A (tryMethod (.int n t) (dunderR "truediv") .none) (fun r s' => r = none ∧ s' = s) E s := by
  have key : wpAny (model prog w) A (callSpecial? (.int n t) (dunderR "truediv") [.none]) (fun r s' => r = some .notImplemented ∧ s' = s) E s :=
    by
      have c : wpAny (model prog w) A (call (.builtin "int.__rtruediv__") [.int n t, .none]) (fun v s' => some v = some .notImplemented ∧ s' = s) E s :=
        rdiv_None (Q := fun v s' => some v = some .notImplemented ∧ s' = s) ⟨rfl, rfl⟩
      refine wpAny_callSpecial?_slot (name := dunderR "truediv") (T := "int") (id := "int.__rtruediv__") (args := [.none]) (kw := []) (hI s) F.slot_int_rtruediv ?_
      exact c
  unfold tryMethod
  refine wpAny_bind (wpAny_mono key (fun r s' hr => ?_) fun _ _ x => x)
  obtain ⟨rfl, rfl⟩ := hr
  exact wpAny_pure ⟨rfl, rfl⟩
theorem div_none {prog : Program} {w : World} {A : Around} {E : Value → Shared → Prop} {s : Shared} {n : Int} {t : Tok} {Q : Value → Shared → Prop} (hA : A.handled = none)
    (h : ∀ h' tk e, Heap.NewExc s.heap h' e "TypeError" → E (.ref e) { s with heap := h', toks := tk }) :
    wpAny (model prog w) A (binaryOp .Div .none (.int n t)) Q E s := by
  have hT : ∀ s' : Shared, s'.TypeIs (.none) "NoneType" := fun _ => rfl
  have hI : ∀ s' : Shared, s'.TypeIs (.int n t) "int" := fun _ => rfl
  unfold binaryOp
  refine wpAny_holding ?_
  dsimp only [Operator.info]
  have one : wpAny (model prog w) A (binaryOp1 "truediv" .none (.int n t)) (fun r s' => r = none ∧ s' = s) E s := by
    unfold binaryOp1
    refine wpAny_bind (wpAny_typeOf (hT _) (wpAny_bind (wpAny_typeOf (hI _) ?_)))
    refine wpAny_bind (wpAny_of_eq fills_None ?_)
    dsimp only
    rw [if_neg (by decide)]
    refine wpAny_bind (wpAny_of_eq F.fills_int_truediv ?_)
    simp only [Bool.false_and, Bool.false_eq_true, if_false, Bool.not_false, Bool.and_true, if_true]
    simp only [pure_bind, Bool.false_eq_true, if_false]
    refine wpAny_bind (wpAny_mono (try_none hI) (fun r s' hr => ?_) fun _ _ x => x)
    obtain ⟨rfl, rfl⟩ := hr
    exact wpAny_pure ⟨rfl, rfl⟩
  refine wpAny_bind (wpAny_mono one (fun r s' hr => ?_) fun _ _ x => x)
  obtain ⟨rfl, rfl⟩ := hr
  dsimp only
  unfold binopTypeError
  refine wpAny_bind (wpAny_rule ?_)
  refine wpAny_bind (wpAny_of_eq (a := "NoneType") (by rfl) (wpAny_bind (wpAny_of_eq (a := "int") (by rfl) ?_)))
  exact wpAny_raiseTypeError hA h (by decide +kernel)
end Mine
end
section
open PySem PySem.W PyProof PyProof.Rows
namespace Mine
set_option maxRecDepth 100000
theorem K37 (P : Params) : (hd.heap_39 P).lookup 37 = some ⟨.type "re.Pattern", none, .fields #[.str "^([-+])?(\\d\\d?):?(\\d\\d)?$" 294, .int 256 368, .int 3 0, .none, .none, .ref 36, .int 0 0], #[]⟩ := by rfl
theorem K56 (P : Params) : (hd.heap_39 P).lookup 56 = some ⟨.type "re.Pattern", none, .fields #[.str "\\.\\d+$" 389, .int 256 416, .int 0 0, .none, .none, .ref 55, .int 0 0], #[]⟩ := by rfl
noncomputable def raws (l : List Int) : Array Value := (l.map rawInt).toArray
theorem K55 (P : Params) : (hd.heap_39 P).lookup 55 = some ⟨.type "tuple", none, .seq (raws [14, 8, 1, 2, 4294967295, 1, 1, 46, 0, 16, 46, 24, 9, 1, 4294967295, 13, 4, 8, 0, 0, 1, 6, 5, 1]) 0, #[]⟩ := by rfl
theorem K36 (P : Params) : (hd.heap_39 P).lookup 36 = some ⟨.type "tuple", none, .seq (raws [14, 4, 0, 1, 6, 6, 0, 23, 14, 0, 1, 17, 0, 13, 6, 16, 45, 16, 43, 0, 17, 1, 18, 17, 2, 13, 4, 8, 0, 0, 24, 9, 0, 1, 13, 4, 8, 0, 0, 1, 17, 3, 24, 6, 0, 1, 16, 58, 1, 23, 17, 0, 1, 17, 4, 13, 4, 8, 0, 0, 13, 4, 8, 0, 0, 17, 5, 18, 6, 5, 1]) 0, #[]⟩ := by rfl
section
open PySem.Spec
variable {prog : Program} {w : World} {A : Around} {E : Value → Shared → Prop} {s : Shared} {h₀ : Heap} {L : Addr} {m : Str → Option Value} {news : List (Addr × Obj)} {x : Str} {t : Tok} {Q : Value → Shared → Prop}
theorem at56 (F : Fr h₀ L s.heap m) (X : (hd.heap_39 w.params).In h₀) : s.heap.get? 56 = some ⟨.type "re.Pattern", none, .fields #[.str "\\.\\d+$" 389, .int 256 416, .int 0 0, .none, .none, .ref 55, .int 0 0], #[]⟩ := (X.keeps F.keep) _ _ (K56 _)
theorem at55 (F : Fr h₀ L s.heap m) (X : (hd.heap_39 w.params).In h₀) : s.heap.get? 55 = some ⟨.type "tuple", none, .seq (raws [14, 8, 1, 2, 4294967295, 1, 1, 46, 0, 16, 46, 24, 9, 1, 4294967295, 13, 4, 8, 0, 0, 1, 6, 5, 1]) 0, #[]⟩ := (X.keeps F.keep) _ _ (K55 _)
theorem at37 (F : Fr h₀ L s.heap m) (X : (hd.heap_39 w.params).In h₀) : s.heap.get? 37 = some ⟨.type "re.Pattern", none, .fields #[.str "^([-+])?(\\d\\d?):?(\\d\\d)?$" 294, .int 256 368, .int 3 0, .none, .none, .ref 36, .int 0 0], #[]⟩ := (X.keeps F.keep) _ _ (K37 _)
theorem at36 (F : Fr h₀ L s.heap m) (X : (hd.heap_39 w.params).In h₀) : s.heap.get? 36 = some ⟨.type "tuple", none, .seq (raws [14, 4, 0, 1, 6, 6, 0, 23, 14, 0, 1, 17, 0, 13, 6, 16, 45, 16, 43, 0, 17, 1, 18, 17, 2, 13, 4, 8, 0, 0, 24, 9, 0, 1, 13, 4, 8, 0, 0, 1, 17, 3, 24, 6, 0, 1, 16, 58, 1, 23, 17, 0, 1, 17, 4, 13, 4, 8, 0, 0, 13, 4, 8, 0, 0, 17, 5, 18, 6, 5, 1]) 0, #[]⟩ := (X.keeps F.keep) _ _ (K36 _)
theorem gm_search56 {M : Model} {pl : Sem Bool} {Q : Value × List Value → Shared → Prop} (F : Fr h₀ L s.heap m) (X : (hd.heap_39 w.params).In h₀) (h : Q (.builtin "re.Pattern.search", [.ref 56]) s) : wpAny M A (getMethod (.ref 56) "search" pl) Q E s :=
  getMethod_builtin (T := "re.Pattern") ⟨_, at56 F X, rfl⟩ pa_Pattern slot_search type_search (fun b e => by injection e with e; subst e; exact ⟨_, at56 F X, rfl⟩) h
theorem gm_search37 {M : Model} {pl : Sem Bool} {Q : Value × List Value → Shared → Prop} (F : Fr h₀ L s.heap m) (X : (hd.heap_39 w.params).In h₀) (h : Q (.builtin "re.Pattern.search", [.ref 37]) s) : wpAny M A (getMethod (.ref 37) "search" pl) Q E s :=
  getMethod_builtin (T := "re.Pattern") ⟨_, at37 F X, rfl⟩ pa_Pattern slot_search type_search (fun b e => by injection e with e; subst e; exact ⟨_, at37 F X, rfl⟩) h
theorem push2 {o1 o2 : Obj} (F : Fr h₀ L s.heap m) (N : News h₀ L s.heap news) (f1 : o1.isFreed = false) (f2 : o2.isFreed = false) :
    Fr h₀ L ((s.heap.push o1).push o2) m ∧ News h₀ L ((s.heap.push o1).push o2) ((s.heap.objs.size + 1, o2) :: (s.heap.objs.size, o1) :: news) := by
  have F1 := F.push o1
  have N1 := N.push F o1 f1
  have F2 := F1.push o2
  have N2 := N1.push F1 o2 f2
  rw [Heap.size_push] at N2
  exact ⟨F2, N2⟩
theorem search56 {r : Option (Int × List Int)} (F : Fr h₀ L s.heap m) (X : (hd.heap_39 w.params).In h₀) (N : News h₀ L s.heap news) (hx : x.length < 1000) (hf : found code55 0 x = some r)
    (hno : r = none → Q .none s)
    (hyes : ∀ li sp M T h', r = some (li, sp) → Fr h₀ L h' m → News h₀ L h' ((M, matchObj (.str x t) 56 x.length li T) :: (T, spanTup sp) :: news) → (∀ p ∈ news, p.1 < T) → T < M → Q (.ref M) { s with heap := h' }) :
    wpAny (model prog w) A (call (.builtin "re.Pattern.search") [.ref 56, .str x t]) Q E s := by
  have e : ((raws [14, 8, 1, 2, 4294967295, 1, 1, 46, 0, 16, 46, 24, 9, 1, 4294967295, 13, 4, 8, 0, 0, 1, 6, 5, 1]).map PySem.Builtin.Re.reRawOf).map (·.toNat) = code55 := by decide +kernel
  cases r with
  | none => exact search_none ⟨_, at56 F X, rfl⟩ (at56 F X) (at55 F X) e (by omega) hf (hno rfl)
  | some r =>
    obtain ⟨F2, N2⟩ := push2 (o1 := spanTup r.2) (o2 := matchObj (.str x t) 56 x.length r.1 s.heap.objs.size) F N rfl rfl
    exact search_some ⟨_, at56 F X, rfl⟩ (at56 F X) (at55 F X) e (by omega) (by decide) hf (hyes r.1 r.2 _ _ _ rfl F2 N2 (fun p hp => Heap.lt_size (N p hp).1) (Nat.lt_succ_self _))
theorem search37 {r : Option (Int × List Int)} (F : Fr h₀ L s.heap m) (X : (hd.heap_39 w.params).In h₀) (N : News h₀ L s.heap news) (hx : x.length < 1000) (hf : found code36 3 x = some r)
    (hno : r = none → Q .none s)
    (hyes : ∀ li sp M T h', r = some (li, sp) → Fr h₀ L h' m → News h₀ L h' ((M, matchObj (.str x t) 37 x.length li T) :: (T, spanTup sp) :: news) → (∀ p ∈ news, p.1 < T) → T < M → Q (.ref M) { s with heap := h' }) :
    wpAny (model prog w) A (call (.builtin "re.Pattern.search") [.ref 37, .str x t]) Q E s := by
  have e : ((raws [14, 4, 0, 1, 6, 6, 0, 23, 14, 0, 1, 17, 0, 13, 6, 16, 45, 16, 43, 0, 17, 1, 18, 17, 2, 13, 4, 8, 0, 0, 24, 9, 0, 1, 13, 4, 8, 0, 0, 1, 17, 3, 24, 6, 0, 1, 16, 58, 1, 23, 17, 0, 1, 17, 4, 13, 4, 8, 0, 0, 13, 4, 8, 0, 0, 17, 5, 18, 6, 5, 1]).map PySem.Builtin.Re.reRawOf).map (·.toNat) = code36 := by decide +kernel
  cases r with
  | none => exact search_none ⟨_, at37 F X, rfl⟩ (at37 F X) (at36 F X) e (by omega) hf (hno rfl)
  | some r =>
    obtain ⟨F2, N2⟩ := push2 (o1 := spanTup r.2) (o2 := matchObj (.str x t) 37 x.length r.1 s.heap.objs.size) F N rfl rfl
    exact search_some ⟨_, at37 F X, rfl⟩ (at37 F X) (at36 F X) e (by omega) (by decide) hf (hyes r.1 r.2 _ _ _ rfl F2 N2 (fun p hp => Heap.lt_size (N p hp).1) (Nat.lt_succ_self _))
theorem search56_none (F : Fr h₀ L s.heap m) (X : (hd.heap_39 w.params).In h₀) (N : News h₀ L s.heap news) (hx : x.length < 1000) (hf : found code55 0 x = some none) (hQ : Q .none s) :
    wpAny (model prog w) A (call (.builtin "re.Pattern.search") [.ref 56, .str x t]) Q E s := search56 F X N hx hf (fun _ => hQ) (fun _ _ _ _ _ h => nomatch h)
theorem search56_some {li₀ : Int} {sp₀ : List Int} (F : Fr h₀ L s.heap m) (X : (hd.heap_39 w.params).In h₀) (N : News h₀ L s.heap news) (hx : x.length < 1000) (hf : found code55 0 x = some (some (li₀, sp₀)))
    (hQ : ∀ M T h', Fr h₀ L h' m → News h₀ L h' ((M, matchObj (.str x t) 56 x.length li₀ T) :: (T, spanTup sp₀) :: news) → (∀ p ∈ news, p.1 < T) → T < M → Q (.ref M) { s with heap := h' }) :
    wpAny (model prog w) A (call (.builtin "re.Pattern.search") [.ref 56, .str x t]) Q E s := search56 F X N hx hf (fun h => nomatch h) (fun li sp M T h' h => by cases h; exact hQ M T h')
theorem search37_none (F : Fr h₀ L s.heap m) (X : (hd.heap_39 w.params).In h₀) (N : News h₀ L s.heap news) (hx : x.length < 1000) (hf : found code36 3 x = some none) (hQ : Q .none s) :
    wpAny (model prog w) A (call (.builtin "re.Pattern.search") [.ref 37, .str x t]) Q E s := search37 F X N hx hf (fun _ => hQ) (fun _ _ _ _ _ h => nomatch h)
theorem search37_some {li₀ : Int} {sp₀ : List Int} (F : Fr h₀ L s.heap m) (X : (hd.heap_39 w.params).In h₀) (N : News h₀ L s.heap news) (hx : x.length < 1000) (hf : found code36 3 x = some (some (li₀, sp₀)))
    (hQ : ∀ M T h', Fr h₀ L h' m → News h₀ L h' ((M, matchObj (.str x t) 37 x.length li₀ T) :: (T, spanTup sp₀) :: news) → (∀ p ∈ news, p.1 < T) → T < M → Q (.ref M) { s with heap := h' }) :
    wpAny (model prog w) A (call (.builtin "re.Pattern.search") [.ref 37, .str x t]) Q E s := search37 F X N hx hf (fun h => nomatch h) (fun li sp M T h' h => by cases h; exact hQ M T h')
theorem noBool_Match : typeLookup (.type "re.Match") "__bool__" = pure none := by rw [typeLookup_type, builtinLookup_eq_fast]; kernel_rfl
theorem noLen_Match : typeLookup (.type "re.Match") "__len__" = pure none := by rw [typeLookup_type, builtinLookup_eq_fast]; kernel_rfl
variable {M T P : Addr} {l li : Int} {sp : List Int}
theorem truthy_match {Q : Bool → Shared → Prop} (N : News h₀ L s.heap news) (hM : (M, matchObj (.str x t) P l li T) ∈ news) (h : Q true s) : wpAny (model prog w) A (truthy (.ref M)) Q E s := by
  have hT : s.TypeIs (.ref M) "re.Match" := ⟨_, (N _ hM).1, rfl⟩
  unfold truthy
  first
    | refine wpAny_bind (wpAny_callSpecial?_none (name := Str.ofString "__bool__") hT noBool_Match ?_)
    | refine wpAny_bind (wpAny_pure (wpAny_bind (wpAny_callSpecial?_none (name := Str.ofString "__bool__") hT noBool_Match ?_)))
  first
    | refine wpAny_bind (wpAny_specialOf (name := Str.ofString "__len__") hT noLen_Match ?_)
    | refine wpAny_bind (wpAny_pure (wpAny_bind (wpAny_specialOf (name := Str.ofString "__len__") hT noLen_Match ?_)))
  exact wpAny_pure h
theorem gm_group {Mo : Model} {pl : Sem Bool} {Q : Value × List Value → Shared → Prop} (N : News h₀ L s.heap news) (hM : (M, matchObj (.str x t) P l li T) ∈ news) (h : Q (.builtin "re.Match.group", [.ref M]) s) : wpAny Mo A (getMethod (.ref M) "group" pl) Q E s :=
  getMethod_builtin (T := "re.Match") ⟨_, (N _ hM).1, rfl⟩ pa_Match slot_group type_group (fun b e => by injection e with e; subst e; exact ⟨_, (N _ hM).1, rfl⟩) h
theorem gm_span {Mo : Model} {pl : Sem Bool} {Q : Value × List Value → Shared → Prop} (N : News h₀ L s.heap news) (hM : (M, matchObj (.str x t) P l li T) ∈ news) (h : Q (.builtin "re.Match.span", [.ref M]) s) : wpAny Mo A (getMethod (.ref M) "span" pl) Q E s :=
  getMethod_builtin (T := "re.Match") ⟨_, (N _ hM).1, rfl⟩ pa_Match slot_span type_span (fun b e => by injection e with e; subst e; exact ⟨_, (N _ hM).1, rfl⟩) h
end
end Mine
end
section
open PySem PySem.W PyProof PyProof.Rows
namespace Mine
local macro_rules | `(tactic| walk_at $s:str) => `(tactic| k_extra $s)
noncomputable def hdn (r : Option (Int × List Int)) (x : Str) : Bool := r.isNone && !(x == Str.ofString "") && !(Txt.item x 0 == Str.ofString ".") && !(Txt.item x (-1) == Str.ofString ".")
theorem hb_end {h₀ : Heap} {L : Addr} {m : Str → Option Value} {news : List (Addr × Obj)} {s : Shared} {Q : Value → Shared → Prop} {b c : Bool} {h' : Heap} {tk' : Nat}
    (hret : ∀ (h' : Heap) (tk' : Nat), Fr h₀ L h' m → News h₀ L h' news → Q (.bool b) { s with heap := h', toks := tk' }) (e : c = b) (F : Fr h₀ L h' m) (N : News h₀ L h' news) : Q (.bool c) { s with heap := h', toks := tk' } := by
  subst e
  exact hret h' tk' F N
section
variable {w : World} {mean : ExcName → Option Value} {mg mb : Str → Option Value} {x : Str} {tx : Tok} {news : List (Addr × Obj)} {dp un : Nat} {gd : Option (List Code)} {cn : Str} {cs : Scope} {aa : Addr} {ccd : Value} {cl : List (Str × Addr)} {outer : List Env} {A₀ : Around} {base h₀ : Heap} {L : Addr} {m : Str → Option Value} {s : Shared} {Q E : Value → Shared → Prop}
set_option maxRecDepth 100000 in
set_option maxHeartbeats 4000000 in
theorem is_HDN_wp {r : Option (Int × List Int)} (hx : x.length = 8) (hf : found code55 0 x = some r)
    (B : Below A₀ base outer h₀) (F : Fr h₀ L s.heap m) (X : (hd.heap_39 w.params).In h₀) (N : News h₀ L s.heap news) (T : Top hd.view_39 LN mean mg mb h₀) (hk : cs.kind = .function) (hdp : dp + 9 < recursionLimit) (hun : un + 99 < cLine)
    (hret : ∀ (h' : Heap) (tk' : Nat), Fr h₀ L h' m → News h₀ L h' news → Q (.bool (hdn r x)) { s with heap := h', toks := tk' }) :
    wpAny (model PySem.Challenge.rw_xe0026_01.row.prog w) (ktrTop dp un gd cn cs L aa ccd cl outer) (call (.ref 63) [.str x tx]) Q E s := by
  revert X; k_fill; intro X
  refine wpAny_call ?_
  k_dflt cell_enter
  (w_top off; k_with_none; (k_with "execs cons" => ((k_here; (first | with_reducible refine tok_add ?_ | (dsimp only; with_reducible refine tok_add ?_)); intro _))); (k_with "execs nil" => ((k_here; (first | with_reducible refine tok_add ?_ | (dsimp only; with_reducible refine tok_add ?_)); intro _))); (k_with "truthy str" => ((k_here; (with_reducible show wpAny _ _ (PySem.truthy (Value.str _ _)) _ _ _); (refine KXt.truthy_pos (K := 16777216) (by omega) (by omega) (Nat.le_refl _) ?_); intro _))); (k_with "getMethod ref" => ((k_here; (with_reducible show wpAny _ _ (getMethod (Value.ref 56) _ _) _ _ _); k_dflt (refine' gm_search56 ?n3k1 ?n3k2 ?_; (case n3k1 => k_asm); (case n3k2 => k_asm))))); (k_with "call builtin:re.Pattern.search" => ((k_here; (with_reducible show wpAny _ _ (call (Value.builtin _) [Value.ref 56, Value.str _ _]) _ _ _); k_dflt (refine' search56 ?n4k1 ?n4k2 ?n4k3 ?n4k4 ?n4k5 ?_ ?_; (case n4k1 => k_asm); (case n4k2 => k_asm); (case n4k3 => k_asm); (case n4k4 => omega); (case n4k5 => assumption)); (first | (intro rE; (try dsimp only)) | (intro _ _ _ _ _ rE F' N' l1 l2; (try k_lt l1); (try k_lt2 l2); (try dsimp only)))))); (k_with "truthy ref" => ((k_here; k_dflt (refine' truthy_match ?n5k1 ?n5k2 ?_; (case n5k1 => k_asm); (case n5k2 => k_mem))))); k_steps)
  · exact hb_end hret (by simp_all [hdn]) (by k_asm) (by k_asm)
  · exact hb_end hret (by simp_all [hdn]) (by k_asm) (by k_asm)
  · exact hb_end hret (by simp_all [hdn]) (by k_asm) (by k_asm)
  · exact hb_end hret (by simp_all [hdn]) (by k_asm) (by k_asm)
  · exact hb_end hret (by simp_all [hdn]) (by k_asm) (cb_drop (by k_asm) (fun p hp => .tail _ (.tail _ hp)))
end
end Mine
end
section
open PySem PySem.W PyProof PyProof.Rows
namespace Mine
local macro_rules | `(tactic| walk_at $s:str) => `(tactic| k_extra $s)
section
open PySem.Spec
variable {prog : Program} {w : World} {A : Around} {E : Value → Shared → Prop} {s : Shared} {h₀ : Heap} {L : Addr} {m : Str → Option Value} {news : List (Addr × Obj)} {x : Str} {t u : Tok} {Q : Value → Shared → Prop} {M T P : Addr} {l li : Int} {sp : List Int}
/-- a place of a match that took no part -/
noncomputable abbrev noGrp (sp : List Int) (i : Nat) : Prop := sp.getD (2 * i) (-1) < 0 ∨ sp.getD (2 * i + 1) (-1) < 0
theorem grp_len (x : Str) (sp : List Int) (i : Nat) : (grp x sp i).length ≤ x.length := by
  show (x.cps.extract _ _).size ≤ x.cps.size
  rw [Array.size_extract]
  omega
theorem group_N (i : Nat) (N : News h₀ L s.heap news) (hM : (M, matchObj (.str x t) P l li T) ∈ news) (hS : (T, spanTup sp) ∈ news) (hi : 2 * i < sp.length) (hx : x.length ≤ 6)
    (hno : noGrp sp i → Q .none s) (hyes : ¬ noGrp sp i → (grp x sp i).length ≤ 6 → Q (.str (grp x sp i) s.toks) { s with toks := s.toks + 1 }) :
    wpAny (model prog w) A (call (.builtin "re.Match.group") [.ref M, .int i u]) Q E s := by
  have hl := grp_len x sp i
  exact group_wp ⟨_, (N _ hM).1, rfl⟩ (N _ hM).1 (N _ hS).1 hi hno fun h => ⟨by rw [sizeLine_eq]; omega, hyes h (by omega)⟩
theorem group_1n (N : News h₀ L s.heap news) (hM : (M, matchObj (.str x t) P l li T) ∈ news) (hS : (T, spanTup sp) ∈ news) (hi : sp.length = 8) (hx : x.length ≤ 6) (h : noGrp sp 1) (hno : Q .none s) :
    wpAny (model prog w) A (call (.builtin "re.Match.group") [.ref M, .int 1 u]) Q E s := group_N 1 N hM hS (by omega) hx (fun _ => hno) fun h' => absurd h h'
theorem group_1y (N : News h₀ L s.heap news) (hM : (M, matchObj (.str x t) P l li T) ∈ news) (hS : (T, spanTup sp) ∈ news) (hi : sp.length = 8) (hx : x.length ≤ 6) (h : ¬ noGrp sp 1)
    (hyes : (grp x sp 1).length ≤ 6 → Q (.str (grp x sp 1) s.toks) { s with toks := s.toks + 1 }) :
    wpAny (model prog w) A (call (.builtin "re.Match.group") [.ref M, .int 1 u]) Q E s := group_N 1 N hM hS (by omega) hx (fun h' => absurd h' h) fun _ => hyes
theorem group_3n (N : News h₀ L s.heap news) (hM : (M, matchObj (.str x t) P l li T) ∈ news) (hS : (T, spanTup sp) ∈ news) (hi : sp.length = 8) (hx : x.length ≤ 6) (h : noGrp sp 3) (hno : Q .none s) :
    wpAny (model prog w) A (call (.builtin "re.Match.group") [.ref M, .int 3 u]) Q E s := group_N 3 N hM hS (by omega) hx (fun _ => hno) fun h' => absurd h h'
theorem group_3y (N : News h₀ L s.heap news) (hM : (M, matchObj (.str x t) P l li T) ∈ news) (hS : (T, spanTup sp) ∈ news) (hi : sp.length = 8) (hx : x.length ≤ 6) (h : ¬ noGrp sp 3)
    (hyes : (grp x sp 3).length ≤ 6 → Q (.str (grp x sp 3) s.toks) { s with toks := s.toks + 1 }) :
    wpAny (model prog w) A (call (.builtin "re.Match.group") [.ref M, .int 3 u]) Q E s := group_N 3 N hM hS (by omega) hx (fun h' => absurd h' h) fun _ => hyes
theorem group_2 (N : News h₀ L s.heap news) (hM : (M, matchObj (.str x t) P l li T) ∈ news) (hS : (T, spanTup sp) ∈ news) (hi : sp.length = 8) (hx : x.length ≤ 6) (h2 : ¬ noGrp sp 2)
    (hyes : (grp x sp 2).length ≤ 6 → Q (.str (grp x sp 2) s.toks) { s with toks := s.toks + 1 }) :
    wpAny (model prog w) A (call (.builtin "re.Match.group") [.ref M, .int 2 u]) Q E s := group_N 2 N hM hS (by omega) hx (fun h => absurd h h2) fun _ => hyes
end
noncomputable def isZone (x : Str) : Bool := decide (x = ⟨#[71, 77, 84]⟩) || (decide (x = ⟨#[85, 84, 67]⟩) || (decide (x = ⟨#[85, 84]⟩) || (decide (x = ⟨#[90]⟩) || false)))
noncomputable def signed (sp : List Int) (x : Str) (o : Int) : Int := if ¬ noGrp sp 1 ∧ (grp x sp 1 == Str.ofString "-") = true then -o else o
theorem sg_no {sp : List Int} {x : Str} {o : Int} (h : noGrp sp 1) : signed sp x o = o := if_neg fun q => q.1 h
theorem sg_yes {sp : List Int} {x : Str} {o : Int} (h : ¬ noGrp sp 1) (e : (grp x sp 1 == Str.ofString "-") = true) : signed sp x o = -o := if_pos ⟨h, e⟩
theorem sg_not {sp : List Int} {x : Str} {o : Int} (e : (grp x sp 1 == Str.ofString "-") = false) : signed sp x o = o := if_neg fun q => Bool.noConfusion (q.2.symm.trans e)
theorem int_end {h₀ : Heap} {L : Addr} {m : Str → Option Value} {news : List (Addr × Obj)} {s : Shared} {Q : Value → Shared → Prop} {b c : Int} {h' : Heap} {t tk' : Nat}
    (hret : ∀ (t : Tok) (h' : Heap) (tk' : Nat), Fr h₀ L h' m → News h₀ L h' news → Q (.int b t) { s with heap := h', toks := tk' }) (e : c = b) (F : Fr h₀ L h' m) (N : News h₀ L h' news) : Q (.int c t) { s with heap := h', toks := tk' } := by
  subst e
  exact hret t h' tk' F N
section
variable {w : World} {mean : ExcName → Option Value} {mg mb : Str → Option Value} {x : Str} {tx : Tok} {news : List (Addr × Obj)} {dp un : Nat} {gd : Option (List Code)} {cn : Str} {cs : Scope} {aa : Addr} {ccd : Value} {cl : List (Str × Addr)} {outer : List Env} {A₀ : Around} {base h₀ : Heap} {L : Addr} {m : Str → Option Value} {s : Shared} {Q E : Value → Shared → Prop}
set_option maxRecDepth 100000 in
set_option maxHeartbeats 4000000 in
theorem offset_plain (hx : x.length ≤ 6) (hx1 : 1 ≤ x.length) (hf : found code36 3 x = some none)
    (B : Below A₀ base outer h₀) (F : Fr h₀ L s.heap m) (X : (hd.heap_39 w.params).In h₀) (N : News h₀ L s.heap news) (T : Top hd.view_39 LN mean mg mb h₀) (hk : cs.kind = .function) (hdp : dp + 4 < recursionLimit) (hun : un + 40 < cLine)
    (hzone : isZone x = true → ∀ (t : Tok) (h' : Heap) (tk' : Nat), Fr h₀ L h' m → News h₀ L h' news → Q (.int 0 t) { s with heap := h', toks := tk' })
    (hnone : isZone x = false → ∀ (h' : Heap) (tk' : Nat), Fr h₀ L h' m → News h₀ L h' news → Q .none { s with heap := h', toks := tk' }) :
    wpAny (model PySem.Challenge.rw_xe0026_01.row.prog w) (ktrTop dp un gd cn cs L aa ccd cl outer) (call (.ref 44) [.str x tx]) Q E s := by
  revert X; k_fill; intro X
  refine wpAny_call ?_
  k_dflt cell_enter
  (w_top off; k_with_none; (k_with "execs cons" => ((k_here; (first | with_reducible refine tok_add ?_ | (dsimp only; with_reducible refine tok_add ?_)); intro _))); (k_with "execs nil" => ((k_here; (first | with_reducible refine tok_add ?_ | (dsimp only; with_reducible refine tok_add ?_)); intro _))); (k_with "truthy str" => ((k_here; (with_reducible show wpAny _ _ (PySem.truthy (Value.str _ _)) _ _ _); (refine KXt.truthy_pos (K := 16777216) (by omega) (by omega) (Nat.le_refl _) ?_); intro _))); (k_with "getMethod ref" => ((k_here; (with_reducible show wpAny _ _ (getMethod (Value.ref 37) _ _) _ _ _); k_dflt (refine' gm_search37 ?n3k1 ?n3k2 ?_; (case n3k1 => k_asm); (case n3k2 => k_asm))))); (k_with "call builtin:re.Pattern.search" => ((k_here; (with_reducible show wpAny _ _ (call (Value.builtin _) [Value.ref 37, Value.str _ _]) _ _ _); k_dflt (first | (refine' search37_none ?n4k1 ?n4k2 ?n4k3 ?n4k4 ?n4k5 ?_; (case n4k1 => k_asm); (case n4k2 => k_asm); (case n4k3 => k_asm); (case n4k4 => omega); (case n4k5 => assumption); (try dsimp only)) | (refine' search37_some ?n4k1 ?n4k2 ?n4k3 ?n4k4 ?n4k5 ?_; (case n4k1 => k_asm); (case n4k2 => k_asm); (case n4k3 => k_asm); (case n4k4 => omega); (case n4k5 => assumption); intro M' T' h' F' N' l1 l2; (try k_lt l1); (try k_lt2 l2); (try dsimp only)))))); (k_with "truthy ref" => ((k_here; k_dflt (refine' truthy_match ?n5k1 ?n5k2 ?_; (case n5k1 => k_asm); (case n5k2 => k_mem))))); (k_with "getMethod ref" => ((k_here; (with_reducible show wpAny _ _ (getMethod (Value.ref _) (Str.ofString "group") _) _ _ _); k_dflt (refine' gm_group ?n6k1 ?n6k2 ?_; (case n6k1 => k_asm); (case n6k2 => k_mem))))); (k_with "call builtin:re.Match.group" => ((k_here; k_dflt (first | (refine' group_2 ?n7k1 ?n7k2 ?n7k3 ?n7k4 ?n7k5 ?n7k6 ?_; (case n7k1 => k_asm); (case n7k2 => k_mem); (case n7k3 => k_mem); (case n7k4 => assumption); (case n7k5 => assumption); (case n7k6 => assumption); intro _) | (refine' group_1n ?n7k1 ?n7k2 ?n7k3 ?n7k4 ?n7k5 ?n7k6 ?_; (case n7k1 => k_asm); (case n7k2 => k_mem); (case n7k3 => k_mem); (case n7k4 => assumption); (case n7k5 => assumption); (case n7k6 => assumption)) | (refine' group_1y ?n7k1 ?n7k2 ?n7k3 ?n7k4 ?n7k5 ?n7k6 ?_; (case n7k1 => k_asm); (case n7k2 => k_mem); (case n7k3 => k_mem); (case n7k4 => assumption); (case n7k5 => assumption); (case n7k6 => assumption); intro _) | (refine' group_3n ?n7k1 ?n7k2 ?n7k3 ?n7k4 ?n7k5 ?n7k6 ?_; (case n7k1 => k_asm); (case n7k2 => k_mem); (case n7k3 => k_mem); (case n7k4 => assumption); (case n7k5 => assumption); (case n7k6 => assumption)) | (refine' group_3y ?n7k1 ?n7k2 ?n7k3 ?n7k4 ?n7k5 ?n7k6 ?_; (case n7k1 => k_asm); (case n7k2 => k_mem); (case n7k3 => k_mem); (case n7k4 => assumption); (case n7k5 => assumption); (case n7k6 => assumption); intro _))))); (k_with "call type:int" => ((k_here; (with_reducible show wpAny _ _ (call (Value.type "int") [Value.str _ _]) _ _ _); (refine KIN.call_text (by assumption) (by omega) ?_)))); k_steps)
  · exact hzone (by assumption) _ _ _ (by k_asm) (by k_asm)
  · exact hnone (by assumption) _ _ (by k_asm) (by k_asm)
set_option maxRecDepth 100000 in
set_option maxHeartbeats 4000000 in
theorem offset_hm {li : Int} {sp : List Int} (hx : x.length ≤ 6) (hx1 : 1 ≤ x.length) (hz : isZone x = false) (hf : found code36 3 x = some (some (li, sp))) (hsp : sp.length = 8) (h2 : ¬ noGrp sp 2) (h3 : ¬ noGrp sp 3) {n2 n3 : Int} (hl3 : (grp x sp 3).length = 2) (hn2 : PySem.intText? (grp x sp 2) = some n2) (hn3 : PySem.intText? (grp x sp 3) = some n3) (hb2 : 0 ≤ n2 ∧ n2 < 100) (hb3 : 0 ≤ n3 ∧ n3 < 100)
    (B : Below A₀ base outer h₀) (F : Fr h₀ L s.heap m) (X : (hd.heap_39 w.params).In h₀) (N : News h₀ L s.heap news) (T : Top hd.view_39 LN mean mg mb h₀) (hk : cs.kind = .function) (hdp : dp + 4 < recursionLimit) (hun : un + 40 < cLine)
    (hret : ∀ (t : Tok) (h' : Heap) (tk' : Nat), Fr h₀ L h' m → News h₀ L h' news → Q (.int (signed sp x (3600 * n2 + 60 * n3)) t) { s with heap := h', toks := tk' }) :
    wpAny (model PySem.Challenge.rw_xe0026_01.row.prog w) (ktrTop dp un gd cn cs L aa ccd cl outer) (call (.ref 44) [.str x tx]) Q E s := by
  by_cases h1 : noGrp sp 1
  all_goals (
    revert X; k_fill; intro X
    refine wpAny_call ?_
    k_dflt cell_enter
    (w_top off; k_with_none; (k_with "execs cons" => ((k_here; (first | with_reducible refine tok_add ?_ | (dsimp only; with_reducible refine tok_add ?_)); intro _))); (k_with "execs nil" => ((k_here; (first | with_reducible refine tok_add ?_ | (dsimp only; with_reducible refine tok_add ?_)); intro _))); (k_with "truthy str" => ((k_here; (with_reducible show wpAny _ _ (PySem.truthy (Value.str _ _)) _ _ _); (refine KXt.truthy_pos (K := 16777216) (by omega) (by omega) (Nat.le_refl _) ?_); intro _))); (k_with "getMethod ref" => ((k_here; (with_reducible show wpAny _ _ (getMethod (Value.ref 37) _ _) _ _ _); k_dflt (refine' gm_search37 ?n3k1 ?n3k2 ?_; (case n3k1 => k_asm); (case n3k2 => k_asm))))); (k_with "call builtin:re.Pattern.search" => ((k_here; (with_reducible show wpAny _ _ (call (Value.builtin _) [Value.ref 37, Value.str _ _]) _ _ _); k_dflt (first | (refine' search37_none ?n4k1 ?n4k2 ?n4k3 ?n4k4 ?n4k5 ?_; (case n4k1 => k_asm); (case n4k2 => k_asm); (case n4k3 => k_asm); (case n4k4 => omega); (case n4k5 => assumption); (try dsimp only)) | (refine' search37_some ?n4k1 ?n4k2 ?n4k3 ?n4k4 ?n4k5 ?_; (case n4k1 => k_asm); (case n4k2 => k_asm); (case n4k3 => k_asm); (case n4k4 => omega); (case n4k5 => assumption); intro M' T' h' F' N' l1 l2; (try k_lt l1); (try k_lt2 l2); (try dsimp only)))))); (k_with "truthy ref" => ((k_here; k_dflt (refine' truthy_match ?n5k1 ?n5k2 ?_; (case n5k1 => k_asm); (case n5k2 => k_mem))))); (k_with "getMethod ref" => ((k_here; (with_reducible show wpAny _ _ (getMethod (Value.ref _) (Str.ofString "group") _) _ _ _); k_dflt (refine' gm_group ?n6k1 ?n6k2 ?_; (case n6k1 => k_asm); (case n6k2 => k_mem))))); (k_with "call builtin:re.Match.group" => ((k_here; k_dflt (first | (refine' group_2 ?n7k1 ?n7k2 ?n7k3 ?n7k4 ?n7k5 ?n7k6 ?_; (case n7k1 => k_asm); (case n7k2 => k_mem); (case n7k3 => k_mem); (case n7k4 => assumption); (case n7k5 => assumption); (case n7k6 => assumption); intro _) | (refine' group_1n ?n7k1 ?n7k2 ?n7k3 ?n7k4 ?n7k5 ?n7k6 ?_; (case n7k1 => k_asm); (case n7k2 => k_mem); (case n7k3 => k_mem); (case n7k4 => assumption); (case n7k5 => assumption); (case n7k6 => assumption)) | (refine' group_1y ?n7k1 ?n7k2 ?n7k3 ?n7k4 ?n7k5 ?n7k6 ?_; (case n7k1 => k_asm); (case n7k2 => k_mem); (case n7k3 => k_mem); (case n7k4 => assumption); (case n7k5 => assumption); (case n7k6 => assumption); intro _) | (refine' group_3n ?n7k1 ?n7k2 ?n7k3 ?n7k4 ?n7k5 ?n7k6 ?_; (case n7k1 => k_asm); (case n7k2 => k_mem); (case n7k3 => k_mem); (case n7k4 => assumption); (case n7k5 => assumption); (case n7k6 => assumption)) | (refine' group_3y ?n7k1 ?n7k2 ?n7k3 ?n7k4 ?n7k5 ?n7k6 ?_; (case n7k1 => k_asm); (case n7k2 => k_mem); (case n7k3 => k_mem); (case n7k4 => assumption); (case n7k5 => assumption); (case n7k6 => assumption); intro _))))); (k_with "call type:int" => ((k_here; (with_reducible show wpAny _ _ (call (Value.type "int") [Value.str _ _]) _ _ _); (refine KIN.call_text (by assumption) (by omega) ?_)))); k_steps))
  all_goals first
    | exact Bool.noConfusion ((show isZone x = true by assumption).symm.trans hz)
    | (refine int_end hret ?_ (by k_asm) (cb_drop (by k_asm) (fun p hp => .tail _ (.tail _ hp))); exact (sg_no h1).symm)
    | (refine int_end hret ?_ (by k_asm) (cb_drop (by k_asm) (fun p hp => .tail _ (.tail _ hp))); exact (sg_yes h1 (by assumption)).symm)
    | (refine int_end hret ?_ (by k_asm) (cb_drop (by k_asm) (fun p hp => .tail _ (.tail _ hp))); exact (sg_not (by assumption)).symm)
set_option maxRecDepth 100000 in
set_option maxHeartbeats 4000000 in
theorem offset_h {li : Int} {sp : List Int} (hx : x.length ≤ 6) (hx1 : 1 ≤ x.length) (hz : isZone x = false) (hf : found code36 3 x = some (some (li, sp))) (hsp : sp.length = 8) (h2 : ¬ noGrp sp 2) (h3 : noGrp sp 3) {n2 : Int} (hn2 : PySem.intText? (grp x sp 2) = some n2) (hb2 : 0 ≤ n2 ∧ n2 < 100)
    (B : Below A₀ base outer h₀) (F : Fr h₀ L s.heap m) (X : (hd.heap_39 w.params).In h₀) (N : News h₀ L s.heap news) (T : Top hd.view_39 LN mean mg mb h₀) (hk : cs.kind = .function) (hdp : dp + 4 < recursionLimit) (hun : un + 40 < cLine)
    (hret : ∀ (t : Tok) (h' : Heap) (tk' : Nat), Fr h₀ L h' m → News h₀ L h' news → Q (.int (signed sp x (3600 * n2)) t) { s with heap := h', toks := tk' }) :
    wpAny (model PySem.Challenge.rw_xe0026_01.row.prog w) (ktrTop dp un gd cn cs L aa ccd cl outer) (call (.ref 44) [.str x tx]) Q E s := by
  by_cases h1 : noGrp sp 1
  all_goals (
    revert X; k_fill; intro X
    refine wpAny_call ?_
    k_dflt cell_enter
    (w_top off; k_with_none; (k_with "execs cons" => ((k_here; (first | with_reducible refine tok_add ?_ | (dsimp only; with_reducible refine tok_add ?_)); intro _))); (k_with "execs nil" => ((k_here; (first | with_reducible refine tok_add ?_ | (dsimp only; with_reducible refine tok_add ?_)); intro _))); (k_with "truthy str" => ((k_here; (with_reducible show wpAny _ _ (PySem.truthy (Value.str _ _)) _ _ _); (refine KXt.truthy_pos (K := 16777216) (by omega) (by omega) (Nat.le_refl _) ?_); intro _))); (k_with "getMethod ref" => ((k_here; (with_reducible show wpAny _ _ (getMethod (Value.ref 37) _ _) _ _ _); k_dflt (refine' gm_search37 ?n3k1 ?n3k2 ?_; (case n3k1 => k_asm); (case n3k2 => k_asm))))); (k_with "call builtin:re.Pattern.search" => ((k_here; (with_reducible show wpAny _ _ (call (Value.builtin _) [Value.ref 37, Value.str _ _]) _ _ _); k_dflt (first | (refine' search37_none ?n4k1 ?n4k2 ?n4k3 ?n4k4 ?n4k5 ?_; (case n4k1 => k_asm); (case n4k2 => k_asm); (case n4k3 => k_asm); (case n4k4 => omega); (case n4k5 => assumption); (try dsimp only)) | (refine' search37_some ?n4k1 ?n4k2 ?n4k3 ?n4k4 ?n4k5 ?_; (case n4k1 => k_asm); (case n4k2 => k_asm); (case n4k3 => k_asm); (case n4k4 => omega); (case n4k5 => assumption); intro M' T' h' F' N' l1 l2; (try k_lt l1); (try k_lt2 l2); (try dsimp only)))))); (k_with "truthy ref" => ((k_here; k_dflt (refine' truthy_match ?n5k1 ?n5k2 ?_; (case n5k1 => k_asm); (case n5k2 => k_mem))))); (k_with "getMethod ref" => ((k_here; (with_reducible show wpAny _ _ (getMethod (Value.ref _) (Str.ofString "group") _) _ _ _); k_dflt (refine' gm_group ?n6k1 ?n6k2 ?_; (case n6k1 => k_asm); (case n6k2 => k_mem))))); (k_with "call builtin:re.Match.group" => ((k_here; k_dflt (first | (refine' group_2 ?n7k1 ?n7k2 ?n7k3 ?n7k4 ?n7k5 ?n7k6 ?_; (case n7k1 => k_asm); (case n7k2 => k_mem); (case n7k3 => k_mem); (case n7k4 => assumption); (case n7k5 => assumption); (case n7k6 => assumption); intro _) | (refine' group_1n ?n7k1 ?n7k2 ?n7k3 ?n7k4 ?n7k5 ?n7k6 ?_; (case n7k1 => k_asm); (case n7k2 => k_mem); (case n7k3 => k_mem); (case n7k4 => assumption); (case n7k5 => assumption); (case n7k6 => assumption)) | (refine' group_1y ?n7k1 ?n7k2 ?n7k3 ?n7k4 ?n7k5 ?n7k6 ?_; (case n7k1 => k_asm); (case n7k2 => k_mem); (case n7k3 => k_mem); (case n7k4 => assumption); (case n7k5 => assumption); (case n7k6 => assumption); intro _) | (refine' group_3n ?n7k1 ?n7k2 ?n7k3 ?n7k4 ?n7k5 ?n7k6 ?_; (case n7k1 => k_asm); (case n7k2 => k_mem); (case n7k3 => k_mem); (case n7k4 => assumption); (case n7k5 => assumption); (case n7k6 => assumption)) | (refine' group_3y ?n7k1 ?n7k2 ?n7k3 ?n7k4 ?n7k5 ?n7k6 ?_; (case n7k1 => k_asm); (case n7k2 => k_mem); (case n7k3 => k_mem); (case n7k4 => assumption); (case n7k5 => assumption); (case n7k6 => assumption); intro _))))); (k_with "call type:int" => ((k_here; (with_reducible show wpAny _ _ (call (Value.type "int") [Value.str _ _]) _ _ _); (refine KIN.call_text (by assumption) (by omega) ?_)))); k_steps))
  all_goals first
    | exact Bool.noConfusion ((show isZone x = true by assumption).symm.trans hz)
    | (refine int_end hret ?_ (by k_asm) (cb_drop (by k_asm) (fun p hp => .tail _ (.tail _ hp))); exact (sg_no h1).symm)
    | (refine int_end hret ?_ (by k_asm) (cb_drop (by k_asm) (fun p hp => .tail _ (.tail _ hp))); exact (sg_yes h1 (by assumption)).symm)
    | (refine int_end hret ?_ (by k_asm) (cb_drop (by k_asm) (fun p hp => .tail _ (.tail _ hp))); exact (sg_not (by assumption)).symm)
end
end Mine
end
section
open PySem PySem.W PyProof PyProof.Rows
set_option maxRecDepth 100000
namespace Mine
open PySem.Spec PySem.Calls
section
variable {M : Model} {A : Around} {E : Value → Shared → Prop} {s' : Shared} {base g h : Heap} {outer : List Env} {L a e : Addr} {m : Str → Option Value} {name : Str} {scope : Scope} {cd : Value} {Q : Unit → Shared → Prop} {news : List (Addr × Obj)}
/-- a frame left by an exception of which only its first fields are told -/
theorem leave_newT {cls : String} (K : Below A base outer g) (hx : Heap.NewExcOf h s'.heap e cls) (F : Fr g L h m) (N : News g L h news)
    (hQ : ∀ h', RaisedSN base g outer e (.type cls) news h' → RaisedN base outer e (.type cls) news h' → g.UpToSlots h' → Q () { s' with heap := h' }) (hk : scope.kind = .function := by rfl) :
    wpAny M (A.deeper (envOf name scope L a cd)) (leaving (envOf name scope L a cd) (.ref e)) Q E s' := by
  have K' := K.push (name := name) (a := a) (cd := cd) F hk
  obtain ⟨ob, vs, he, hcls, hd, h1⟩ := hx.there
  let fs := (envOf name scope L a cd :: outer).filterMap (·.frame)
  have off : ∀ b o, h.get? b = some o → b ∉ fs → (hideAll h fs).get? b = some o := fun b o q nm => hideAll_get _ q nm
  have inn : ∀ env ∈ (envOf name scope L a cd :: outer), ∀ b, env.frame = some b → b ∈ fs := fun env he b hb => List.mem_filterMap.mpr ⟨env, he, hb⟩
  have st : base.StaysIn (hideAll h fs) := fun b o q => off b o (K'.stays b o q) fun hm => by
    rw [(K'.frames.mem hm).1] at q; cases q
  have sg : ∀ b o, g.get? b = some o → b ∉ outer.filterMap (·.frame) → (hideAll h fs).get? b = some o := fun b o q nm => off b o (F.keep b o q) fun hm => by
    rcases kts_mem hm with z | z
    · rw [z, kts_self F] at q; cases q
    · exact nm z
  have hl : ∀ q ∈ news, (hideAll h fs).get? q.1 = some q.2 ∧ g.get? q.1 = none ∧ base.get? q.1 = none := fun q hq => by
    refine ⟨off _ _ (N q hq).1 fun hm => ?_, (N q hq).2.2, fresh_of_stays K.stays (N q hq).2.2⟩
    rcases kts_mem hm with z | z
    · exact (N q hq).2.1 z
    · obtain ⟨o, ho, _⟩ := (K.frames.mem z).2
      rw [(N q hq).2.2] at ho; cases ho
  have hen : (hideAll h fs).get? e = none := by
    cases q : (hideAll h fs).get? e with
    | none => rfl
    | some o => have := of_hideAll _ q; rw [hx.new] at this; cases this
  obtain ⟨a0, h0⟩ : ∃ a0, vs[0]? = some a0 := by
    have hz : 1 < vs.size := (Array.getElem?_eq_some_iff.mp h1).1
    exact ⟨vs[0], by rw [Array.getElem?_eq_getElem (by omega)]⟩
  refine wpAny_leaving_firstW (a0 := a0) K'.stack ((funFrames_hide K'.frames inn).of_keeps fun b o hb _ => ⟨o, hx.keeps b o hb, rfl⟩) rfl he (fun b o hb => hx.keeps b o (of_hideAll _ hb)) hen hd h1 h0 fun h' hL => ?_
  obtain ⟨k1, ⟨_, _, k2⟩, k3, k4⟩ := hL
  have R : RaisedSN base g outer e (.type cls) news h' := ⟨_, a0, st, sg, hl, k1, hen, k2, by rw [← hcls]; exact k3⟩
  exact hQ h' R R.toN (((Heap.UpToSlots.of_keeps F.keep).trans (Heap.UpToSlots.of_keeps hx.keeps)).trans k4)
end
section
variable {prog : Program} {w : World} {A₀ A : Around} {s : Shared} {base h₀ : Heap} {L : Addr} {m : Str → Option Value} {env : Env} {news : List (Addr × Obj)} {K : Frag} {p : Program} {loose : List Str} {mean : ExcName → Option Value} {mg mb : Str → Option Value}
    {R : Result → Shared → Prop} {name qual : Str} {params : Arguments} {body : List Stmt} {scope : Scope} {dV kV doc pm cdv ct oc : Value} {an od : Option Addr} {osl : Array (Option Value)} {f : Addr} {args : Args} {binds : List (Str × Value)}
/-- a def that catches, called by the first frame of all, whatever cells that frame has -/
theorem enterT (B : Below A₀ base [] h₀) (F : Fr h₀ L s.heap m) (X₀ : K.In h₀) (N : News h₀ L s.heap news) (T : Top p loose mean mg mb h₀) (hA : A.frames = some [env]) (hf : env.frame = some L) (hke : env.scope.kind = .function)
    (ho : K.lookup f = some ⟨oc, od, .func (fnOf name qual params body scope dV kV doc pm an cdv ct), osl⟩) (hcd : codeIn K cdv qual = true) (hroom : A.depth < recursionLimit)
    (hbind : BindsTo s (fnOf name qual params body scope dV kV doc pm an cdv ct) args binds) (hloc : ∀ y ∈ binds, scope.names.lookup y.1 = some .local)
    (h : ∀ g L' h₁, Fr h₀ L g m → Fr g L' h₁ (fun y => binds.reverse.lookup y) → News g L' h₁ news → Below A base [env] g → K.In g → Top p loose mean mg mb g → KtsDicts ([env].filterMap (·.frame)) g →
      wpAny (model prog w) (A.deeper (envOf qual scope L' f cdv)) (execs body (envOf qual scope L' f cdv))
        (fun fl s' => LeaveS0 ([env].filterMap (·.frame)) h₀ L m g R (match fl with | .ret v => v | _ => .none) s')
        (fun e s' => wpAny (model prog w) (A.deeper (envOf qual scope L' f cdv)) (leaving (envOf qual scope L' f cdv) e) (fun _ s'' => R (.error e) s'') (fun e' s'' => R (.error e') s'') s')
        { s with heap := h₁, toks := s.toks + binds.length })
    (hco : scope.isCoroutine = false) (hgen : scope.isGenerator = false) (hk : scope.kind = .function)
    (hcell : ∀ x ∈ scope.names, x.2 ≠ .cell) : codeAny (model prog w) A (.call (.ref f) args) R s := by
  have X := X₀.keeps F.keep
  obtain ⟨FG, BG, st, _⟩ := groundX (R := R) B F N hA hf hke
  obtain ⟨oL, es, ep, hLg, hLd, hLk, hLf⟩ := FG.ns
  have only : ∀ b, b ∈ [env].filterMap (·.frame) → b = L := fun b hb => by
    obtain ⟨e', he, hq⟩ := List.mem_filterMap.mp hb
    rw [List.mem_singleton.mp he, hf] at hq
    exact (Option.some.inj hq).symm
  refine codeAny_call_def (fd := fnOf name qual params body scope dV kV doc pm an cdv ct) (body := body) (binds := binds) hroom (X _ _ ho) rfl (T.nolimit.keeps F.keep) (codeRec_of X hcd) rfl hbind hcell hloc (fun h₁ hns hk₁ => ?_) hco hgen hk
  refine wpAny_mono (h _ s.heap.objs.size h₁ FG ⟨hns, fun b o e => hk₁ b o (of_hideAll _ e), Nat.le_of_eq (hideAll_size _ _)⟩
    (fun p hp => ⟨hk₁ _ _ (N p hp).1, Nat.ne_of_lt (Heap.lt_size (N p hp).1), hideAll_none _ (List.mem_map_of_mem hp)⟩) BG (X₀.keeps st) (T.keeps st) (fun b hb => by
      rw [only b hb]
      exact ⟨oL, es, ep, hLg, hLd⟩)) (fun fl s' hl => ?_) fun _ _ y => y
  obtain ⟨g', L', m', news', T', F', N', k⟩ := hl
  have nL₀ : h₀.get? L = none := kts_self F
  obtain ⟨sl, hs⟩ := T'.up hLg
  refine k ⟨⟨_, es, ep, F'.keep _ _ hs, hLd, hLk, hLf⟩, fun b o e => F'.keep b o (T'.other b o (st b o e) fun q => by
    rw [only b q, nL₀] at e; cases e), F.above⟩ fun p hp => ⟨(N' p hp).1, fun q => ?_, ?_⟩
  · have := (N' p hp).2.2
    rw [q, hs] at this; cases this
  · cases q : h₀.get? p.1 with
    | none => rfl
    | some o =>
      obtain ⟨sl', hs'⟩ := T'.up (st _ _ q)
      have := (N' p hp).2.2
      rw [hs'] at this; cases this
end
end Mine
end
section
open PySem PySem.W PyProof PyProof.Rows
namespace Mine
section
open PySem.Spec
variable {prog : Program} {w : World} {A : Around} {E : Value → Shared → Prop} {s : Shared} {h₀ : Heap} {L : Addr} {m : Str → Option Value} {news : List (Addr × Obj)} {x : Str} {t u : Tok} {Q : Value → Shared → Prop} {M T P : Addr} {l li : Int} {sp : List Int}
theorem span_N (F : Fr h₀ L s.heap m) (N : News h₀ L s.heap news) (hM : (M, matchObj (.str x t) P l li T) ∈ news) (hS : (T, spanTup sp) ∈ news) (hi : 0 < sp.length)
    (h : ∀ t1 t2 D h' tk, Fr h₀ L h' m → News h₀ L h' ((D, { cls := .type "tuple", data := .seq #[.int (sp.getD 0 (-1)) t1, .int (sp.getD 1 (-1)) t2] }) :: news) → (∀ p ∈ news, p.1 < D) → Q (.ref D) { s with heap := h', toks := tk }) :
    wpAny (model prog w) A (call (.builtin "re.Match.span") [.ref M, .int 0 u]) Q E s :=
  span_wp ⟨_, (N _ hM).1, rfl⟩ (N _ hM).1 (N _ hS).1 (by omega) (h _ _ _ _ _ (F.push _) (N.push F _ rfl) (fun p hp => Heap.lt_size (N p hp).1))
theorem fname_K {K : Frag} {f : Addr} {name qual : Str} {params : Arguments} {body : List Stmt} {scope : Scope} {dV kV doc pm cdv ct : Value} {an od : Option Addr} {osl : Array (Option Value)} {expr : Bool} (F : Fr h₀ L s.heap m) (X : K.In h₀)
    (ho : K.lookup f = some ⟨.type "function", od, .func (fnOf name qual params body scope dV kV doc pm an cdv ct), osl⟩) (hz : name.length ≤ sizeLine) (h : ∀ t tk, Q (.str name t) { s with toks := tk }) :
    wpAny (model prog w) A (getAttr (.ref f) (Str.ofString "__name__") expr) Q E s := by
  obtain ⟨hp, g, d, tk, os⟩ := s
  exact fname_attr ((X.keeps F.keep) _ _ ho) rfl rfl hz (h _ _)
theorem string_N {expr : Bool} (N : News h₀ L s.heap news) (hM : (M, matchObj (.str x t) P l li T) ∈ news) (h : ∀ tk, Q (.str x t) { s with toks := tk }) : wpAny (model prog w) A (getAttr (.ref M) (Str.ofString "string") expr) Q E s := by
  obtain ⟨hp, g, d, tk, os⟩ := s
  exact string_attr (N _ hM).1 rfl rfl rfl (h _)
end
local macro_rules | `(tactic| walk_at $s:str) => `(tactic| k_extra $s)
theorem str_end {h₀ : Heap} {L : Addr} {m : Str → Option Value} {news : List (Addr × Obj)} {s : Shared} {Q : Value → Shared → Prop} {b c : Str} {h' : Heap} {t tk' : Nat}
    (hret : ∀ (t : Tok) (h' : Heap) (tk' : Nat), Fr h₀ L h' m → News h₀ L h' news → Q (.str b t) { s with heap := h', toks := tk' }) (e : c = b) (F : Fr h₀ L h' m) (N : News h₀ L h' news) : Q (.str c t) { s with heap := h', toks := tk' } := by
  subst e
  exact hret t h' tk' F N
section
variable {w : World} {mean : ExcName → Option Value} {mg mb : Str → Option Value} {x : Str} {tx tw : Tok} {news : List (Addr × Obj)} {dp un : Nat} {gd : Option (List Code)} {cn : Str} {cs : Scope} {aa : Addr} {ccd : Value} {cl : List (Str × Addr)} {outer : List Env} {A₀ : Around} {base h₀ : Heap} {L : Addr} {m : Str → Option Value} {s : Shared} {Q E : Value → Shared → Prop}
set_option maxRecDepth 100000 in
set_option maxHeartbeats 4000000 in
theorem bare_some {li : Int} {sp : List Int} (hx : x.length = 8) (hf : found code55 0 x = some (some (li, sp))) (hsp : sp.length = 2)
    (B : Below A₀ base outer h₀) (F : Fr h₀ L s.heap m) (X : (hd.heap_39 w.params).In h₀) (N : News h₀ L s.heap news) (T : Top hd.view_39 LN mean mg mb h₀) (hk : cs.kind = .function) (hdp : dp + 9 < recursionLimit) (hun : un + 99 < cLine)
    (hret : ∀ (t : Tok) (h' : Heap) (tk' : Nat), Fr h₀ L h' m → News h₀ L h' news → Q (.str (Txt.slice x none (some (sp.getD 0 (-1))) ++ Txt.slice x (some (sp.getD 1 (-1))) none) t) { s with heap := h', toks := tk' }) :
    wpAny (model PySem.Challenge.rw_xe0026_01.row.prog w) (ktrTop dp un gd cn cs L aa ccd cl outer) (call (.ref 85) [.str x tx, .str (Str.ofString "address") tw, .ref 120]) Q E s := by
  revert X; k_fill; intro X
  refine wpAny_call ?_
  k_dflt (refine' code_def ?k1 ?k2 ?k3 ?k4 ?k5 ?kA ?kF ?kK ?k6 ?k7 ?k8 ?k9 ?kB ?_ ?c2 ?c3 ?c4 ?c5; (case kA => exact rfl); (case kF => exact rfl); (case kK => assumption); (case k1 => k_asm); (case k2 => k_asm); (case k3 => k_asm); (case k4 => k_asm); (case k5 => k_asm); (case k6 => k_is); (case k7 => k_is); (case k8 => ktr_room); (case k9 => exact binds_K (by k_in) rfl (by k_is) rfl rfl rfl); (case c5 => decide); (case kB => exact locs rfl); (case c2 => exact rfl); (case c3 => exact rfl); (case c4 => exact rfl); k_whole; intro g' L' h' FG' F' N' B' X' T'; (try dsimp only); (try k_lift B'); (try k_fold))
  (w_top off; k_with_none; (k_with "execs cons" => ((k_here; (first | with_reducible refine tok_add ?_ | (dsimp only; with_reducible refine tok_add ?_)); intro _))); (k_with "execs nil" => ((k_here; (first | with_reducible refine tok_add ?_ | (dsimp only; with_reducible refine tok_add ?_)); intro _))); (k_with "getMethod ref" => ((k_here; (with_reducible show wpAny _ _ (getMethod (Value.ref 56) _ _) _ _ _); k_dflt (refine' gm_search56 ?n2k1 ?n2k2 ?_; (case n2k1 => k_asm); (case n2k2 => k_asm))))); (k_with "call builtin:re.Pattern.search" => ((k_here; (with_reducible show wpAny _ _ (call (Value.builtin _) [Value.ref 56, Value.str _ _]) _ _ _); k_dflt (first | (refine' search56_none ?n3k1 ?n3k2 ?n3k3 ?n3k4 ?n3k5 ?_; (case n3k1 => k_asm); (case n3k2 => k_asm); (case n3k3 => k_asm); (case n3k4 => omega); (case n3k5 => assumption); (try dsimp only)) | (refine' search56_some ?n3k1 ?n3k2 ?n3k3 ?n3k4 ?n3k5 ?_; (case n3k1 => k_asm); (case n3k2 => k_asm); (case n3k3 => k_asm); (case n3k4 => omega); (case n3k5 => assumption); intro M' T' h' F' N' l1 l2; (try k_lt l1); (try k_lt2 l2); (try dsimp only)))))); (k_with "getMethod ref" => ((k_here; (with_reducible show wpAny _ _ (getMethod (Value.ref _) (Str.ofString "span") _) _ _ _); k_dflt (refine' gm_span ?n4k1 ?n4k2 ?_; (case n4k1 => k_asm); (case n4k2 => k_mem))))); (k_with "call builtin:re.Match.span" => ((k_here; k_dflt (refine' span_N ?n5k1 ?n5k2 ?n5k3 ?n5k4 ?n5k5 ?_; (case n5k1 => k_asm); (case n5k2 => k_asm); (case n5k3 => k_mem); (case n5k4 => k_mem); (case n5k5 => omega); intro t1 t2 D' h' tk' F' N' l1; (try k_lt l1); (try dsimp only))))); (k_with "getAttr ref" => ((k_here; (with_reducible show wpAny _ _ (getAttr (Value.ref _) (Str.ofString "string") _) _ _ _); k_dflt (refine' string_N ?n6k1 ?n6k2 ?_; (case n6k1 => k_asm); (case n6k2 => k_mem); intro _)))); (k_with "call ref" => ((k_here; k_dflt (refine wpAny_call ?_; refine' code_def ?n7k1 ?n7k2 ?n7k3 ?n7k4 ?n7k5 ?n7kA ?n7kF ?n7kK ?n7k6 ?n7k7 ?n7k8 ?n7k9 ?n7kB ?_ ?n7c2 ?n7c3 ?n7c4 ?n7c5; (case n7kA => exact rfl); (case n7kF => exact rfl); (case n7kK => first | exact rfl | assumption); (case n7k1 => k_asm); (case n7k2 => k_asm); (case n7k3 => k_asm); (case n7k4 => k_asm); (case n7k5 => k_asm); (case n7k6 => k_is); (case n7k7 => k_is); (case n7k8 => ktr_room); (case n7k9 => first | exact BindsTo.of_eq rfl | exact binds_K (by k_in) rfl (by k_is) rfl rfl rfl); (case n7c5 => decide); (case n7kB => exact locs rfl); (case n7c2 => exact rfl); (case n7c3 => exact rfl); (case n7c4 => exact rfl); k_whole; intro g' L' h' FG' F' N' B' X' T'; (try dsimp only); (try k_lift B'); (try k_fold))))); (k_with "getMethod none" => ((k_here; k_dflt (refine none_span rfl (fun h' tk' e' hx' => ?_); (try dsimp only))))); k_steps)
  exact hret _ _ _ (by k_asm) (cb_drop (by k_asm) (fun p hp => .tail _ (.tail _ (.tail _ hp))))
set_option maxRecDepth 100000 in
set_option maxHeartbeats 4000000 in
theorem bare_none (hx : x.length = 8) (hf : found code55 0 x = some none)
    (B : Below A₀ base [] h₀) (F : Fr h₀ L s.heap m) (X : (hd.heap_39 w.params).In h₀) (N : News h₀ L s.heap news) (T : Top hd.view_39 LN mean mg mb h₀) (XB : (hd.heap_39 w.params).In base) (TB : Top hd.view_39 LN mean mg mb base) (hk : cs.kind = .function) (hdp : dp + 9 < recursionLimit) (hun : un + 99 < cLine)
    (hret : ∀ (t : Tok) (h' : Heap) (tk' : Nat), Fr h₀ L h' m → News h₀ L h' news → Q (.str (Str.ofString "<address _law_bare() failed>") t) { s with heap := h', toks := tk' }) :
    wpAny (model PySem.Challenge.rw_xe0026_01.row.prog w) (ktrTop dp un gd cn cs L aa ccd cl []) (call (.ref 85) [.str x tx, .str (Str.ofString "address") tw, .ref 120]) Q E s := by
  revert X; k_fill; intro X
  refine wpAny_call ?_
  k_dflt (refine' enterT ?k1 ?k2 ?k3 ?k4 ?k5 ?kA ?kF ?kK ?k6 ?k7 ?k8 ?k9 ?kB ?_ ?c2 ?c3 ?c4 ?c5; (case kA => exact rfl); (case kF => exact rfl); (case kK => assumption); (case k1 => k_asm); (case k2 => k_asm); (case k3 => k_asm); (case k4 => k_asm); (case k5 => k_asm); (case k6 => k_is); (case k7 => k_is); (case k8 => ktr_room); (case k9 => exact binds_K (by k_in) rfl (by k_is) rfl rfl rfl); (case c5 => decide); (case kB => exact locs rfl); (case c2 => exact rfl); (case c3 => exact rfl); (case c4 => exact rfl); k_whole; intro g' L' h' FG' F' N' B' X' T' D'; (try dsimp only); (try k_lift B'); (try k_fold))
  (w_top off; k_with_none; (k_with "execs cons" => ((k_here; (first | with_reducible refine tok_add ?_ | (dsimp only; with_reducible refine tok_add ?_)); intro _))); (k_with "execs nil" => ((k_here; (first | with_reducible refine tok_add ?_ | (dsimp only; with_reducible refine tok_add ?_)); intro _))); (k_with "getMethod ref" => ((k_here; (with_reducible show wpAny _ _ (getMethod (Value.ref 56) _ _) _ _ _); k_dflt (refine' gm_search56 ?n2k1 ?n2k2 ?_; (case n2k1 => k_asm); (case n2k2 => k_asm))))); (k_with "call builtin:re.Pattern.search" => ((k_here; (with_reducible show wpAny _ _ (call (Value.builtin _) [Value.ref 56, Value.str _ _]) _ _ _); k_dflt (first | (refine' search56_none ?n3k1 ?n3k2 ?n3k3 ?n3k4 ?n3k5 ?_; (case n3k1 => k_asm); (case n3k2 => k_asm); (case n3k3 => k_asm); (case n3k4 => omega); (case n3k5 => assumption); (try dsimp only)) | (refine' search56_some ?n3k1 ?n3k2 ?n3k3 ?n3k4 ?n3k5 ?_; (case n3k1 => k_asm); (case n3k2 => k_asm); (case n3k3 => k_asm); (case n3k4 => omega); (case n3k5 => assumption); intro M' T' h' F' N' l1 l2; (try k_lt l1); (try k_lt2 l2); (try dsimp only)))))); (k_with "getMethod ref" => ((k_here; (with_reducible show wpAny _ _ (getMethod (Value.ref _) (Str.ofString "span") _) _ _ _); k_dflt (refine' gm_span ?n4k1 ?n4k2 ?_; (case n4k1 => k_asm); (case n4k2 => k_mem))))); (k_with "call builtin:re.Match.span" => ((k_here; k_dflt (refine' span_N ?n5k1 ?n5k2 ?n5k3 ?n5k4 ?n5k5 ?_; (case n5k1 => k_asm); (case n5k2 => k_asm); (case n5k3 => k_mem); (case n5k4 => k_mem); (case n5k5 => omega); intro t1 t2 D' h' tk' F' N' l1; (try k_lt l1); (try dsimp only))))); (k_with "getAttr ref" => ((k_here; (with_reducible show wpAny _ _ (getAttr (Value.ref _) (Str.ofString "string") _) _ _ _); k_dflt (refine' string_N ?n6k1 ?n6k2 ?_; (case n6k1 => k_asm); (case n6k2 => k_mem); intro _)))); (k_with "call ref" => ((k_here; k_dflt (refine wpAny_call ?_; refine' code_def ?n7k1 ?n7k2 ?n7k3 ?n7k4 ?n7k5 ?n7kA ?n7kF ?n7kK ?n7k6 ?n7k7 ?n7k8 ?n7k9 ?n7kB ?_ ?n7c2 ?n7c3 ?n7c4 ?n7c5; (case n7kA => exact rfl); (case n7kF => exact rfl); (case n7kK => first | exact rfl | assumption); (case n7k1 => k_asm); (case n7k2 => k_asm); (case n7k3 => k_asm); (case n7k4 => k_asm); (case n7k5 => k_asm); (case n7k6 => k_is); (case n7k7 => k_is); (case n7k8 => ktr_room); (case n7k9 => first | exact BindsTo.of_eq rfl | exact binds_K (by k_in) rfl (by k_is) rfl rfl rfl); (case n7c5 => decide); (case n7kB => exact locs rfl); (case n7c2 => exact rfl); (case n7c3 => exact rfl); (case n7c4 => exact rfl); k_whole; intro g' L' h' FG' F' N' B' X' T'; (try dsimp only); (try k_lift B'); (try k_fold))))); (k_with "getMethod none" => ((k_here; k_dflt (refine none_span rfl (fun h' tk' e' hx' => ?_); (try dsimp only))))); (k_with "getAttr ref" => ((k_here; (with_reducible show wpAny _ _ (getAttr (Value.ref _) (Str.ofString "__name__") _) _ _ _); k_dflt (refine' fname_K ?n9k1 ?n9k2 ?n9k3 ?n9k4 ?_; (case n9k1 => k_asm); (case n9k2 => k_asm); (case n9k3 => k_is); (case n9k4 => decide +kernel); intro _ _)))); (k_with "leaving ref" => ((k_here; (refine' leave_newT ?n10k1 ?n10k0 ?n10k2 ?n10k3 ?_; (case n10k0 => assumption); (case n10k2 => assumption); (case n10k1 => assumption); (case n10k3 => k_asm); k_whole; intro h' S' R' U'; (try dsimp only at S' R' U' ⊢))))); k_steps)
  exact str_end hret (by decide +kernel) (by k_asm) (by k_asm)
end
end Mine
end
section
open PySem PySem.W PyProof PyProof.Rows
namespace Mine
section
variable {w : World} {mean : ExcName → Option Value} {mg mb : Str → Option Value} {x : Str} {tx tw : Tok} {news : List (Addr × Obj)} {dp un : Nat} {gd : Option (List Code)} {cn : Str} {cs : Scope} {aa : Addr} {ccd : Value} {cl : List (Str × Addr)} {outer : List Env} {A₀ : Around} {base h₀ : Heap} {L : Addr} {m : Str → Option Value} {s : Shared} {Q E : Value → Shared → Prop}
theorem offset_no (hx : x.length ≤ 6) (hx1 : 1 ≤ x.length) (hf : found code36 3 x = some none) (hz : isZone x = false)
    (B : Below A₀ base outer h₀) (F : Fr h₀ L s.heap m) (X : (hd.heap_39 w.params).In h₀) (N : News h₀ L s.heap news) (T : Top hd.view_39 LN mean mg mb h₀) (hk : cs.kind = .function) (hdp : dp + 4 < recursionLimit) (hun : un + 40 < cLine)
    (hret : ∀ (h' : Heap) (tk' : Nat), Fr h₀ L h' m → News h₀ L h' news → Q .none { s with heap := h', toks := tk' }) :
    wpAny (model PySem.Challenge.rw_xe0026_01.row.prog w) (ktrTop dp un gd cn cs L aa ccd cl outer) (call (.ref 44) [.str x tx]) Q E s :=
  offset_plain hx hx1 hf B F X N T hk hdp hun (fun h => Bool.noConfusion (h.symm.trans hz)) fun _ => hret
end
local macro_rules | `(tactic| walk_at $s:str) => `(tactic| k_extra $s)
section
variable {w : World} {mean : ExcName → Option Value} {mg mb : Str → Option Value} {x : Str} {tx tw : Tok} {news : List (Addr × Obj)} {dp un : Nat} {gd : Option (List Code)} {cn : Str} {cs : Scope} {aa : Addr} {ccd : Value} {cl : List (Str × Addr)} {outer : List Env} {A₀ : Around} {base h₀ : Heap} {L : Addr} {m : Str → Option Value} {s : Shared} {Q E : Value → Shared → Prop}
set_option maxRecDepth 100000 in
set_option maxHeartbeats 4000000 in
theorem paint_none (hx : x.length ≤ 6) (hx1 : 1 ≤ x.length) (hf : found code36 3 x = some none) (hz : isZone x = false)
    (B : Below A₀ base [] h₀) (F : Fr h₀ L s.heap m) (X : (hd.heap_39 w.params).In h₀) (N : News h₀ L s.heap news) (T : Top hd.view_39 LN mean mg mb h₀) (XB : (hd.heap_39 w.params).In base) (TB : Top hd.view_39 LN mean mg mb base) (hk : cs.kind = .function) (hdp : dp + 9 < recursionLimit) (hun : un + 99 < cLine)
    (hret : ∀ (t : Tok) (h' : Heap) (tk' : Nat), Fr h₀ L h' m → News h₀ L h' news → Q (.str (Str.ofString "<zone _law_paint() failed>") t) { s with heap := h', toks := tk' }) :
    wpAny (model PySem.Challenge.rw_xe0026_01.row.prog w) (ktrTop dp un gd cn cs L aa ccd cl []) (call (.ref 85) [.str x tx, .str (Str.ofString "zone") tw, .ref 113]) Q E s := by
  revert X; k_fill; intro X
  refine wpAny_call ?_
  k_dflt (refine' enterT ?k1 ?k2 ?k3 ?k4 ?k5 ?kA ?kF ?kK ?k6 ?k7 ?k8 ?k9 ?kB ?_ ?c2 ?c3 ?c4 ?c5; (case kA => exact rfl); (case kF => exact rfl); (case kK => assumption); (case k1 => k_asm); (case k2 => k_asm); (case k3 => k_asm); (case k4 => k_asm); (case k5 => k_asm); (case k6 => k_is); (case k7 => k_is); (case k8 => ktr_room); (case k9 => exact binds_K (by k_in) rfl (by k_is) rfl rfl rfl); (case c5 => decide); (case kB => exact locs rfl); (case c2 => exact rfl); (case c3 => exact rfl); (case c4 => exact rfl); k_whole; intro g' L' h' FG' F' N' B' X' T' D'; (try dsimp only); (try k_lift B'); (try k_fold))
  (w_top off; k_with_none; (k_with "execs cons" => ((k_here; (first | with_reducible refine tok_add ?_ | (dsimp only; with_reducible refine tok_add ?_)); intro _))); (k_with "execs nil" => ((k_here; (first | with_reducible refine tok_add ?_ | (dsimp only; with_reducible refine tok_add ?_)); intro _))); (k_with "call ref" => ((k_here; k_dflt (refine wpAny_call ?_; refine' code_def ?n2k1 ?n2k2 ?n2k3 ?n2k4 ?n2k5 ?n2kA ?n2kF ?n2kK ?n2k6 ?n2k7 ?n2k8 ?n2k9 ?n2kB ?_ ?n2c2 ?n2c3 ?n2c4 ?n2c5; (case n2kA => exact rfl); (case n2kF => exact rfl); (case n2kK => first | exact rfl | assumption); (case n2k1 => k_asm); (case n2k2 => k_asm); (case n2k3 => k_asm); (case n2k4 => k_asm); (case n2k5 => k_asm); (case n2k6 => k_is); (case n2k7 => k_is); (case n2k8 => ktr_room); (case n2k9 => first | exact BindsTo.of_eq rfl | exact binds_K (by k_in) rfl (by k_is) rfl rfl rfl); (case n2c5 => decide); (case n2kB => exact locs rfl); (case n2c2 => exact rfl); (case n2c3 => exact rfl); (case n2c4 => exact rfl); k_whole; intro g' L' h' FG' F' N' B' X' T'; (try dsimp only); (try k_lift B'); (try k_fold))))); (k_with "getAttr ref" => ((k_here; (with_reducible show wpAny _ _ (getAttr (Value.ref _) (Str.ofString "__name__") _) _ _ _); k_dflt (refine' fname_K ?n3k1 ?n3k2 ?n3k3 ?n3k4 ?_; (case n3k1 => k_asm); (case n3k2 => k_asm); (case n3k3 => k_is); (case n3k4 => decide +kernel); intro _ _)))); (k_with "binaryOp Div none int" => ((k_here; k_dflt (refine div_none rfl (fun h' tk' e' hx' => ?_); (try dsimp only))))); (k_with "leaving ref" => ((k_here; (refine' leave_newT ?n5k1 ?n5k0 ?n5k2 ?n5k3 ?_; (case n5k0 => assumption); (case n5k2 => assumption); (case n5k1 => assumption); (case n5k3 => k_asm); k_whole; intro h' S' R' U'; (try dsimp only at S' R' U' ⊢))))); (k_with "call ref" => ((k_here; (with_reducible show wpAny _ _ (call (Value.ref 44) [Value.str _ _]) _ _ _); k_dflt (refine' offset_no ?n6hx ?n6hx1 ?n6hf ?n6hz ?n6k1 ?n6k2 ?n6k3 ?n6k4 ?n6k5 ?n6kK ?n6kd ?n6ku ?_; (case n6hx => assumption); (case n6hx1 => assumption); (case n6hf => assumption); (case n6hz => assumption); (case n6k1 => k_asm); (case n6k2 => k_asm); (case n6k3 => k_asm); (case n6k4 => k_asm); (case n6k5 => k_asm); (case n6kK => first | exact rfl | assumption); (case n6kd => ktr_room); (case n6ku => ktr_units)); intro h9 tk9 F9 N9; (try dsimp only); (try k_fold)))); k_steps)
  exact str_end hret (by decide +kernel) (by k_asm) (by k_asm)
end
end Mine
end
section
open PySem PySem.W PyProof PyProof.Rows
namespace Mine
noncomputable def offB (x : Str) : Option Int := match found code36 3 x with
  | some none => if isZone x then some 0 else none
  | some (some (_, sp)) => if sp.length = 8 ∧ ¬ noGrp sp 2 ∧ isZone x = false then (match PySem.intText? (grp x sp 2) with
    | some n2 => if 0 ≤ n2 ∧ n2 < 100 then (if noGrp sp 3 then some (signed sp x (3600 * n2)) else if (grp x sp 3).length = 2 then (match PySem.intText? (grp x sp 3) with
      | some n3 => if 0 ≤ n3 ∧ n3 < 100 then some (signed sp x (3600 * n2 + 60 * n3)) else none
      | none => none) else none) else none
    | none => none) else none
  | none => none
noncomputable def turnE (o : Int) : UInt64 := Float64.ofFrac (decide (o < 0) != decide ((86400 : Int) < 0)) o.natAbs (Int.natAbs 86400)
noncomputable def hueE (o : Int) : UInt64 := Float64.mul (Float64.abs (Float64.ofFrac (decide (o < 0) != decide ((86400 : Int) < 0)) o.natAbs (Int.natAbs 86400))) 4618441417868443648
noncomputable def iE (o : Int) : Int := Flt.toInt Float64.truncOf (hueE o)
noncomputable def negE (o : Int) : Bool := Float64.cmpInt (Float64.ofFrac (decide (o < 0) != decide ((86400 : Int) < 0)) o.natAbs (Int.natAbs 86400)) 0 == some Ordering.lt
noncomputable def fE (o : Int) : UInt64 := Float64.sub (hueE o) (Float64.ofInt (iE o))
noncomputable def pE : UInt64 := Float64.mul 4607182418800017408 (Float64.sub 4607182418800017408 4607182418800017408)
noncomputable def qE (o : Int) : UInt64 := Float64.mul 4607182418800017408 (Float64.sub 4607182418800017408 (Float64.mul 4607182418800017408 (fE o)))
noncomputable def tE (o : Int) : UInt64 := Float64.mul 4607182418800017408 (Float64.sub 4607182418800017408 (Float64.mul 4607182418800017408 (Float64.sub 4607182418800017408 (fE o))))
noncomputable def tripE (o : Int) : UInt64 × UInt64 × UInt64 :=
  if (iE o).fmod 6 = 0 then (4607182418800017408, tE o, pE) else if (iE o).fmod 6 = 1 then (qE o, 4607182418800017408, pE) else if (iE o).fmod 6 = 2 then (pE, 4607182418800017408, tE o)
  else if (iE o).fmod 6 = 3 then (pE, qE o, 4607182418800017408) else if (iE o).fmod 6 = 4 then (tE o, pE, 4607182418800017408) else (4607182418800017408, pE, qE o)
noncomputable def paintE (o : Int) : UInt64 × UInt64 × UInt64 := if negE o = true then ((tripE o).1, (tripE o).2.2, (tripE o).2.1) else tripE o
theorem trip0 {o : Int} (h : (iE o).fmod 6 = 0) : tripE o = (4607182418800017408, tE o, pE) := by unfold tripE; rw [h]; rfl
theorem pfT0 {o : Int} (h : (iE o).fmod 6 = 0) (n : negE o = true) : paintE o = (4607182418800017408, pE, tE o) := by unfold paintE; rw [if_pos n, trip0 h]
theorem pfF0 {o : Int} (h : (iE o).fmod 6 = 0) (n : negE o = false) : paintE o = (4607182418800017408, tE o, pE) := by unfold paintE; rw [if_neg (by rw [n]; exact Bool.false_ne_true), trip0 h]
theorem trip1 {o : Int} (h : (iE o).fmod 6 = 1) : tripE o = (qE o, 4607182418800017408, pE) := by unfold tripE; rw [h]; rfl
theorem pfT1 {o : Int} (h : (iE o).fmod 6 = 1) (n : negE o = true) : paintE o = (qE o, pE, 4607182418800017408) := by unfold paintE; rw [if_pos n, trip1 h]
theorem pfF1 {o : Int} (h : (iE o).fmod 6 = 1) (n : negE o = false) : paintE o = (qE o, 4607182418800017408, pE) := by unfold paintE; rw [if_neg (by rw [n]; exact Bool.false_ne_true), trip1 h]
theorem trip2 {o : Int} (h : (iE o).fmod 6 = 2) : tripE o = (pE, 4607182418800017408, tE o) := by unfold tripE; rw [h]; rfl
theorem pfT2 {o : Int} (h : (iE o).fmod 6 = 2) (n : negE o = true) : paintE o = (pE, tE o, 4607182418800017408) := by unfold paintE; rw [if_pos n, trip2 h]
theorem pfF2 {o : Int} (h : (iE o).fmod 6 = 2) (n : negE o = false) : paintE o = (pE, 4607182418800017408, tE o) := by unfold paintE; rw [if_neg (by rw [n]; exact Bool.false_ne_true), trip2 h]
theorem trip3 {o : Int} (h : (iE o).fmod 6 = 3) : tripE o = (pE, qE o, 4607182418800017408) := by unfold tripE; rw [h]; rfl
theorem pfT3 {o : Int} (h : (iE o).fmod 6 = 3) (n : negE o = true) : paintE o = (pE, 4607182418800017408, qE o) := by unfold paintE; rw [if_pos n, trip3 h]
theorem pfF3 {o : Int} (h : (iE o).fmod 6 = 3) (n : negE o = false) : paintE o = (pE, qE o, 4607182418800017408) := by unfold paintE; rw [if_neg (by rw [n]; exact Bool.false_ne_true), trip3 h]
theorem trip4 {o : Int} (h : (iE o).fmod 6 = 4) : tripE o = (tE o, pE, 4607182418800017408) := by unfold tripE; rw [h]; rfl
theorem pfT4 {o : Int} (h : (iE o).fmod 6 = 4) (n : negE o = true) : paintE o = (tE o, 4607182418800017408, pE) := by unfold paintE; rw [if_pos n, trip4 h]
theorem pfF4 {o : Int} (h : (iE o).fmod 6 = 4) (n : negE o = false) : paintE o = (tE o, pE, 4607182418800017408) := by unfold paintE; rw [if_neg (by rw [n]; exact Bool.false_ne_true), trip4 h]
theorem trip5 {o : Int} (h : (iE o).fmod 6 = 5) : tripE o = (4607182418800017408, pE, qE o) := by unfold tripE; rw [h]; rfl
theorem pfT5 {o : Int} (h : (iE o).fmod 6 = 5) (n : negE o = true) : paintE o = (4607182418800017408, qE o, pE) := by unfold paintE; rw [if_pos n, trip5 h]
theorem pfF5 {o : Int} (h : (iE o).fmod 6 = 5) (n : negE o = false) : paintE o = (4607182418800017408, pE, qE o) := by unfold paintE; rw [if_neg (by rw [n]; exact Bool.false_ne_true), trip5 h]
theorem no_six {i : Int} (h0 : i.fmod 6 ≠ 0) (h1 : i.fmod 6 ≠ 1) (h2 : i.fmod 6 ≠ 2) (h3 : i.fmod 6 ≠ 3) (h4 : i.fmod 6 ≠ 4) (h5 : i.fmod 6 ≠ 5) : False := by
  rw [Int.fmod_eq_emod_of_nonneg _ (by omega)] at *
  omega
noncomputable abbrev fTup (c : UInt64 × UInt64 × UInt64) (t1 t2 t3 : Tok) : Obj := { cls := .type "tuple", data := .seq #[.float c.1 t1, .float c.2.1 t2, .float c.2.2 t3] }
theorem pt_end {h₀ : Heap} {L : Addr} {m : Str → Option Value} {news : List (Addr × Obj)} {s : Shared} {Q : Value → Shared → Prop} {o : Int} {r g b : UInt64} {D D1 : Addr} {o1 : Obj} {h' : Heap} {t1 t2 t3 tk' : Nat}
    (hret : ∀ (D : Addr) (t1 t2 t3 : Tok) (h' : Heap) (tk' : Nat), Fr h₀ L h' m → News h₀ L h' ((D, fTup (paintE o) t1 t2 t3) :: news) → (∀ p ∈ news, p.1 < D) → Q (.ref D) { s with heap := h', toks := tk' }) (e : paintE o = (r, g, b)) (F : Fr h₀ L h' m)
    (N : News h₀ L h' ((D, { cls := .type "tuple", data := .seq #[.float r t1, .float g t2, .float b t3] }) :: (D1, o1) :: news)) (hl : D1 < D ∧ AllLt D news) : Q (.ref D) { s with heap := h', toks := tk' } := by
  refine hret D t1 t2 t3 h' tk' F (fun q hq => ?_) (kst_ltOf hl.2)
  rcases List.mem_cons.mp hq with rfl | hq
  · rw [e]; exact N _ (.head _)
  · exact N _ (.tail _ (.tail _ hq))
section
variable {w : World} {mean : ExcName → Option Value} {mg mb : Str → Option Value} {x : Str} {tx tw : Tok} {news : List (Addr × Obj)} {dp un : Nat} {gd : Option (List Code)} {cn : Str} {cs : Scope} {aa : Addr} {ccd : Value} {cl : List (Str × Addr)} {outer : List Env} {A₀ : Around} {base h₀ : Heap} {L : Addr} {m : Str → Option Value} {s : Shared} {Q E : Value → Shared → Prop}
theorem offset_is {o : Int} (hx : x.length ≤ 6) (hx1 : 1 ≤ x.length) (ho : offB x = some o)
    (B : Below A₀ base outer h₀) (F : Fr h₀ L s.heap m) (X : (hd.heap_39 w.params).In h₀) (N : News h₀ L s.heap news) (T : Top hd.view_39 LN mean mg mb h₀) (hk : cs.kind = .function) (hdp : dp + 4 < recursionLimit) (hun : un + 40 < cLine)
    (hret : ∀ (t : Tok) (h' : Heap) (tk' : Nat), Fr h₀ L h' m → News h₀ L h' news → Q (.int o t) { s with heap := h', toks := tk' }) :
    wpAny (model PySem.Challenge.rw_xe0026_01.row.prog w) (ktrTop dp un gd cn cs L aa ccd cl outer) (call (.ref 44) [.str x tx]) Q E s := by
  unfold offB at ho
  split at ho
  · rename_i e
    split at ho
    · rename_i hz
      cases ho
      exact offset_plain hx hx1 e B F X N T hk hdp hun (fun _ => hret) fun h => Bool.noConfusion (h.symm.trans hz)
    · cases ho
  · rename_i li sp e
    split at ho
    · rename_i h1
      obtain ⟨h8, h2, hz⟩ := h1
      split at ho
      · rename_i n2 e2
        split at ho
        · rename_i hb2
          split at ho
          · rename_i h3
            cases ho
            exact offset_h hx hx1 hz e h8 h2 h3 e2 hb2 B F X N T hk hdp hun hret
          · rename_i h3
            split at ho
            · rename_i hl3
              split at ho
              · rename_i n3 e3
                split at ho
                · rename_i hb3
                  cases ho
                  exact offset_hm hx hx1 hz e h8 h2 h3 hl3 e2 e3 hb2 hb3 B F X N T hk hdp hun hret
                · cases ho
              · cases ho
            · cases ho
        · cases ho
      · cases ho
    · cases ho
  · cases ho
end
local macro_rules | `(tactic| walk_at $s:str) => `(tactic| k_extra $s)
section
variable {w : World} {mean : ExcName → Option Value} {mg mb : Str → Option Value} {x : Str} {tx tw : Tok} {news : List (Addr × Obj)} {dp un : Nat} {gd : Option (List Code)} {cn : Str} {cs : Scope} {aa : Addr} {ccd : Value} {cl : List (Str × Addr)} {outer : List Env} {A₀ : Around} {base h₀ : Heap} {L : Addr} {m : Str → Option Value} {s : Shared} {Q E : Value → Shared → Prop}
set_option maxRecDepth 100000 in
set_option maxHeartbeats 4000000 in
theorem paint_some {o : Int} (hx : x.length ≤ 6) (hx1 : 1 ≤ x.length) (ho : offB x = some o) (hInf0 : Float64.isInf (turnE o) = false) (hNaN : Float64.isNaN (hueE o) = false) (hInf : Float64.isInf (hueE o) = false) (hBig : (iE o).natAbs < 2 ^ 1024 - 2 ^ 970)
    (B : Below A₀ base [] h₀) (F : Fr h₀ L s.heap m) (X : (hd.heap_39 w.params).In h₀) (N : News h₀ L s.heap news) (T : Top hd.view_39 LN mean mg mb h₀) (XB : (hd.heap_39 w.params).In base) (TB : Top hd.view_39 LN mean mg mb base) (hk : cs.kind = .function) (hdp : dp + 9 < recursionLimit) (hun : un + 99 < cLine)
    (hret : ∀ (D : Addr) (t1 t2 t3 : Tok) (h' : Heap) (tk' : Nat), Fr h₀ L h' m → News h₀ L h' ((D, fTup (paintE o) t1 t2 t3) :: news) → (∀ p ∈ news, p.1 < D) → Q (.ref D) { s with heap := h', toks := tk' }) :
    wpAny (model PySem.Challenge.rw_xe0026_01.row.prog w) (ktrTop dp un gd cn cs L aa ccd cl []) (call (.ref 85) [.str x tx, .str (Str.ofString "zone") tw, .ref 113]) Q E s := by
  revert X; k_fill; intro X
  refine wpAny_call ?_
  k_dflt (refine' enterT ?k1 ?k2 ?k3 ?k4 ?k5 ?kA ?kF ?kK ?k6 ?k7 ?k8 ?k9 ?kB ?_ ?c2 ?c3 ?c4 ?c5; (case kA => exact rfl); (case kF => exact rfl); (case kK => assumption); (case k1 => k_asm); (case k2 => k_asm); (case k3 => k_asm); (case k4 => k_asm); (case k5 => k_asm); (case k6 => k_is); (case k7 => k_is); (case k8 => ktr_room); (case k9 => exact binds_K (by k_in) rfl (by k_is) rfl rfl rfl); (case c5 => decide); (case kB => exact locs rfl); (case c2 => exact rfl); (case c3 => exact rfl); (case c4 => exact rfl); k_whole; intro g' L' h' FG' F' N' B' X' T' D'; (try dsimp only); (try k_lift B'); (try k_fold))
  (w_top off; k_with_none; (k_with "execs cons" => ((k_here; (first | with_reducible refine tok_add ?_ | (dsimp only; with_reducible refine tok_add ?_)); intro _))); (k_with "execs nil" => ((k_here; (first | with_reducible refine tok_add ?_ | (dsimp only; with_reducible refine tok_add ?_)); intro _))); (k_with "call ref" => ((k_here; k_dflt (refine wpAny_call ?_; refine' code_def ?n2k1 ?n2k2 ?n2k3 ?n2k4 ?n2k5 ?n2kA ?n2kF ?n2kK ?n2k6 ?n2k7 ?n2k8 ?n2k9 ?n2kB ?_ ?n2c2 ?n2c3 ?n2c4 ?n2c5; (case n2kA => exact rfl); (case n2kF => exact rfl); (case n2kK => first | exact rfl | assumption); (case n2k1 => k_asm); (case n2k2 => k_asm); (case n2k3 => k_asm); (case n2k4 => k_asm); (case n2k5 => k_asm); (case n2k6 => k_is); (case n2k7 => k_is); (case n2k8 => ktr_room); (case n2k9 => first | exact BindsTo.of_eq rfl | exact binds_K (by k_in) rfl (by k_is) rfl rfl rfl); (case n2c5 => decide); (case n2kB => exact locs rfl); (case n2c2 => exact rfl); (case n2c3 => exact rfl); (case n2c4 => exact rfl); k_whole; intro g' L' h' FG' F' N' B' X' T'; (try dsimp only); (try k_lift B'); (try k_fold))))); (k_with "getAttr ref" => ((k_here; (with_reducible show wpAny _ _ (getAttr (Value.ref _) (Str.ofString "__name__") _) _ _ _); k_dflt (refine' fname_K ?n3k1 ?n3k2 ?n3k3 ?n3k4 ?_; (case n3k1 => k_asm); (case n3k2 => k_asm); (case n3k3 => k_is); (case n3k4 => decide +kernel); intro _ _)))); (k_with "binaryOp Div none int" => ((k_here; k_dflt (refine div_none rfl (fun h' tk' e' hx' => ?_); (try dsimp only))))); (k_with "leaving ref" => ((k_here; (refine' leave_newT ?n5k1 ?n5k0 ?n5k2 ?n5k3 ?_; (case n5k0 => assumption); (case n5k2 => assumption); (case n5k1 => assumption); (case n5k3 => k_asm); k_whole; intro h' S' R' U'; (try dsimp only at S' R' U' ⊢))))); (k_with "call ref" => ((k_here; (with_reducible show wpAny _ _ (call (Value.ref 44) [Value.str _ _]) _ _ _); k_dflt (refine' offset_is ?n6hx ?n6hx1 ?n6hf ?n6k1 ?n6k2 ?n6k3 ?n6k4 ?n6k5 ?n6kK ?n6kd ?n6ku ?_; (case n6hx => assumption); (case n6hx1 => assumption); (case n6hf => assumption); (case n6k1 => k_asm); (case n6k2 => k_asm); (case n6k3 => k_asm); (case n6k4 => k_asm); (case n6k5 => k_asm); (case n6kK => first | exact rfl | assumption); (case n6kd => ktr_room); (case n6ku => ktr_units)); intro t9 h9 tk9 F9 N9; (try dsimp only); (try k_fold)))); k_steps)
  all_goals first
    | exact absurd (show (Float64.cmp 4607182418800017408 0 == some Ordering.eq) = true by assumption) (by decide +kernel)
    | exact Bool.noConfusion ((show Float64.isInf (turnE o) = true by assumption).symm.trans hInf0)
    | exact Bool.noConfusion ((show Float64.isNaN (hueE o) = true by assumption).symm.trans hNaN)
    | exact Bool.noConfusion ((show Float64.isInf (hueE o) = true by assumption).symm.trans hInf)
    | exact absurd (show 2 ^ 1024 - 2 ^ 970 ≤ (iE o).natAbs by assumption) (Nat.not_le.mpr hBig)
    | exact pt_end hret (pfT0 (by assumption) (by assumption)) (by k_asm) (by k_asm) (by assumption)
    | exact pt_end hret (pfF0 (by assumption) (by assumption)) (by k_asm) (by k_asm) (by assumption)
    | exact pt_end hret (pfT1 (by assumption) (by assumption)) (by k_asm) (by k_asm) (by assumption)
    | exact pt_end hret (pfF1 (by assumption) (by assumption)) (by k_asm) (by k_asm) (by assumption)
    | exact pt_end hret (pfT2 (by assumption) (by assumption)) (by k_asm) (by k_asm) (by assumption)
    | exact pt_end hret (pfF2 (by assumption) (by assumption)) (by k_asm) (by k_asm) (by assumption)
    | exact pt_end hret (pfT3 (by assumption) (by assumption)) (by k_asm) (by k_asm) (by assumption)
    | exact pt_end hret (pfF3 (by assumption) (by assumption)) (by k_asm) (by k_asm) (by assumption)
    | exact pt_end hret (pfT4 (by assumption) (by assumption)) (by k_asm) (by k_asm) (by assumption)
    | exact pt_end hret (pfF4 (by assumption) (by assumption)) (by k_asm) (by k_asm) (by assumption)
    | exact pt_end hret (pfT5 (by assumption) (by assumption)) (by k_asm) (by k_asm) (by assumption)
    | exact pt_end hret (pfF5 (by assumption) (by assumption)) (by k_asm) (by k_asm) (by assumption)
    | exact (no_six (i := iE o) (by assumption) (by assumption) (by assumption) (by assumption) (by assumption) (by assumption)).elim
end
end Mine
end
section
open PySem PySem.W PyProof PyProof.Rows
namespace Mine
noncomputable def fLt (x y : UInt64) : Bool := Float64.cmp x y == some .lt
noncomputable def fMax (x y z : UInt64) : UInt64 := bif fLt x y then (bif fLt y z then z else y) else (bif fLt x z then z else x)
noncomputable def fMin (x y z : UInt64) : UInt64 := bif fLt y x then (bif fLt z y then z else y) else (bif fLt z x then z else x)
theorem max_three_ff {prog : Program} {w : World} {A : Around} {E : Value → Shared → Prop} {s : Shared} {Q : Value → Shared → Prop} {x y z : UInt64} {t u v : Tok} {h₀ : Heap} {L : Addr} {m : Str → Option Value} {news : List (Addr × Obj)}
    (hh : A.handled = none) (F : Fr h₀ L s.heap m) (N : News h₀ L s.heap news)
    (h : ∀ h' tk tv, Fr h₀ L h' m → News h₀ L h' news → Q (.float (fMax x y z) tv) { s with heap := h', toks := tk }) :
    wpAny (model prog w) A (call (.builtin "max") [.float x t, .float y u, .float z v]) Q E s := by
  have hT : (s.heap.push { cls := .type "tuple", data := .seq #[.float x t, .float y u, .float z v] }).IsTuple s.heap.objs.size #[.float x t, .float y u, .float z v] := ⟨_, Heap.get?_push_size _ rfl, rfl, 0, rfl⟩
  refine call_max_three (wpAny_pyIter_tuple hT ?_)
  have hsz : (s.heap.push { cls := .type "tuple", data := .seq #[.float x t, .float y u, .float z v] }).objs.size = s.heap.objs.size + 1 := Heap.size_push ..
  refine ⟨_, [_, s.heap.objs.size], [_], _, _, _, _, rfl, Walks.tuple (A := A.in1) hh _ s.heap.objs.size (by rw [hsz]; exact Nat.ne_of_lt (Nat.lt_succ_self _)) #[.float x t, .float y u, .float z v],
    ⟨⟨_, Heap.get?_push_size _ rfl, rfl, rfl⟩, hT.push _⟩, fun c hc => ?_, by simp, PySem.Flt.cmpOf_gt #[.float x t, .float y u, .float z v] (by simp [PySem.Flt.NumV.float]), fun r h' tk hP hk => ?_⟩
  · show c < ((s.heap.push _).push _).objs.size
    rw [Heap.size_push, hsz]
    rcases List.mem_cons.mp hc with rfl | hc
    · rw [hsz]; exact Nat.lt_succ_self _
    · rcases List.mem_cons.mp hc with rfl | hc
      · exact Nat.lt_succ_of_lt (Nat.lt_succ_self _)
      · cases hc
  · have hold : ∀ c o, s.heap.get? c = some o → h'.get? c = some o := fun c o e => by
      refine hk c o (fun hm => ?_) (Heap.get?_push_of_some _ (Heap.get?_push_of_some _ e))
      rcases List.mem_cons.mp hm with e1 | hm
      · have := Heap.lt_size e; rw [e1, hsz] at this; exact Nat.lt_irrefl _ (Nat.lt_of_succ_lt this)
      · cases hm
    have hv : ∃ tv, r = .float (fMax x y z) tv := by
      have a1 : PySem.Flt.ltV (.float x t) (.float y u) = fLt x y := rfl
      have a2 : PySem.Flt.ltV (.float y u) (.float z v) = fLt y z := rfl
      have a3 : PySem.Flt.ltV (.float x t) (.float z v) = fLt x z := rfl
      cases h1 : fLt x y <;> cases h2 : fLt y z <;> cases h3 : fLt x z <;> simp [argBest, a1, a2, a3, h1, h2, h3] at hP <;> simp [← hP, fMax, h1, h2, h3]
    obtain ⟨tv, rfl⟩ := hv
    exact h h' tk tv (F.grownK hold) (N.grown hold)
theorem min_three_ff {prog : Program} {w : World} {A : Around} {E : Value → Shared → Prop} {s : Shared} {Q : Value → Shared → Prop} {x y z : UInt64} {t u v : Tok} {h₀ : Heap} {L : Addr} {m : Str → Option Value} {news : List (Addr × Obj)}
    (hh : A.handled = none) (F : Fr h₀ L s.heap m) (N : News h₀ L s.heap news)
    (h : ∀ h' tk tv, Fr h₀ L h' m → News h₀ L h' news → Q (.float (fMin x y z) tv) { s with heap := h', toks := tk }) :
    wpAny (model prog w) A (call (.builtin "min") [.float x t, .float y u, .float z v]) Q E s := by
  have hT : (s.heap.push { cls := .type "tuple", data := .seq #[.float x t, .float y u, .float z v] }).IsTuple s.heap.objs.size #[.float x t, .float y u, .float z v] := ⟨_, Heap.get?_push_size _ rfl, rfl, 0, rfl⟩
  refine call_min_three (wpAny_pyIter_tuple hT ?_)
  have hsz : (s.heap.push { cls := .type "tuple", data := .seq #[.float x t, .float y u, .float z v] }).objs.size = s.heap.objs.size + 1 := Heap.size_push ..
  refine ⟨_, [_, s.heap.objs.size], [_], _, _, _, _, rfl, Walks.tuple (A := A.in1) hh _ s.heap.objs.size (by rw [hsz]; exact Nat.ne_of_lt (Nat.lt_succ_self _)) #[.float x t, .float y u, .float z v],
    ⟨⟨_, Heap.get?_push_size _ rfl, rfl, rfl⟩, hT.push _⟩, fun c hc => ?_, by simp, PySem.Flt.cmpOf_lt #[.float x t, .float y u, .float z v] (by simp [PySem.Flt.NumV.float]), fun r h' tk hP hk => ?_⟩
  · show c < ((s.heap.push _).push _).objs.size
    rw [Heap.size_push, hsz]
    rcases List.mem_cons.mp hc with rfl | hc
    · rw [hsz]; exact Nat.lt_succ_self _
    · rcases List.mem_cons.mp hc with rfl | hc
      · exact Nat.lt_succ_of_lt (Nat.lt_succ_self _)
      · cases hc
  · have hold : ∀ c o, s.heap.get? c = some o → h'.get? c = some o := fun c o e => by
      refine hk c o (fun hm => ?_) (Heap.get?_push_of_some _ (Heap.get?_push_of_some _ e))
      rcases List.mem_cons.mp hm with e1 | hm
      · have := Heap.lt_size e; rw [e1, hsz] at this; exact Nat.lt_irrefl _ (Nat.lt_of_succ_lt this)
      · cases hm
    have hv : ∃ tv, r = .float (fMin x y z) tv := by
      have a1 : PySem.Flt.ltV (.float y u) (.float x t) = fLt y x := rfl
      have a2 : PySem.Flt.ltV (.float z v) (.float y u) = fLt z y := rfl
      have a3 : PySem.Flt.ltV (.float z v) (.float x t) = fLt z x := rfl
      cases h1 : fLt y x <;> cases h2 : fLt z y <;> cases h3 : fLt z x <;> simp [argBest, a1, a2, a3, h1, h2, h3] at hP <;> simp [← hP, fMin, h1, h2, h3]
    obtain ⟨tv, rfl⟩ := hv
    exact h h' tk tv (F.grownK hold) (N.grown hold)
end Mine
end
section
open PySem PySem.W PyProof PyProof.Rows
namespace Mine
noncomputable def rawE (r g b : UInt64) : UInt64 :=
  if (Float64.cmp r (fMax r g b) == some .eq) = true then Float64.sub (Float64.div (Float64.sub (fMax r g b) b) (Float64.sub (fMax r g b) (fMin r g b))) (Float64.div (Float64.sub (fMax r g b) g) (Float64.sub (fMax r g b) (fMin r g b)))
  else if (Float64.cmp g (fMax r g b) == some .eq) = true then Float64.sub (Float64.add 4611686018427387904 (Float64.div (Float64.sub (fMax r g b) r) (Float64.sub (fMax r g b) (fMin r g b)))) (Float64.div (Float64.sub (fMax r g b) b) (Float64.sub (fMax r g b) (fMin r g b)))
  else Float64.sub (Float64.add 4616189618054758400 (Float64.div (Float64.sub (fMax r g b) g) (Float64.sub (fMax r g b) (fMin r g b)))) (Float64.div (Float64.sub (fMax r g b) r) (Float64.sub (fMax r g b) (fMin r g b)))
noncomputable def hlsE (r g b : UInt64) : UInt64 × UInt64 × UInt64 :=
  ((Float64.divmod (Float64.div (rawE r g b) 4618441417868443648) 4607182418800017408).snd, Float64.div (Float64.add (fMax r g b) (fMin r g b)) 4611686018427387904, Float64.div (Float64.sub (fMax r g b) (fMin r g b)) (Float64.add (fMax r g b) (fMin r g b)))
theorem raw_r {r g b : UInt64} (h : (Float64.cmp r (fMax r g b) == some .eq) = true) : rawE r g b = Float64.sub (Float64.div (Float64.sub (fMax r g b) b) (Float64.sub (fMax r g b) (fMin r g b))) (Float64.div (Float64.sub (fMax r g b) g) (Float64.sub (fMax r g b) (fMin r g b))) := if_pos h
theorem raw_g {r g b : UInt64} (h : (Float64.cmp r (fMax r g b) == some .eq) = false) (h2 : (Float64.cmp g (fMax r g b) == some .eq) = true) : rawE r g b = Float64.sub (Float64.add 4611686018427387904 (Float64.div (Float64.sub (fMax r g b) r) (Float64.sub (fMax r g b) (fMin r g b)))) (Float64.div (Float64.sub (fMax r g b) b) (Float64.sub (fMax r g b) (fMin r g b))) := (if_neg (by rw [h]; exact Bool.false_ne_true)).trans (if_pos h2)
theorem raw_b {r g b : UInt64} (h : (Float64.cmp r (fMax r g b) == some .eq) = false) (h2 : (Float64.cmp g (fMax r g b) == some .eq) = false) : rawE r g b = Float64.sub (Float64.add 4616189618054758400 (Float64.div (Float64.sub (fMax r g b) g) (Float64.sub (fMax r g b) (fMin r g b)))) (Float64.div (Float64.sub (fMax r g b) r) (Float64.sub (fMax r g b) (fMin r g b))) := (if_neg (by rw [h]; exact Bool.false_ne_true)).trans (if_neg (by rw [h2]; exact Bool.false_ne_true))
theorem hls_end {h₀ : Heap} {L : Addr} {m : Str → Option Value} {news : List (Addr × Obj)} {s : Shared} {Q : Value → Shared → Prop} {r g b x : UInt64} {D : Addr} {h' : Heap} {t1 t2 t3 tk' : Nat}
    (hret : ∀ (D : Addr) (t1 t2 t3 : Tok) (h' : Heap) (tk' : Nat), ((0 : Nat) < t1 ∧ (0 : Nat) < t2 ∧ (0 : Nat) < t3) → Fr h₀ L h' m → News h₀ L h' ((D, fTup (hlsE r g b) t1 t2 t3) :: news) → (∀ p ∈ news, p.1 < D) → Q (.ref D) { s with heap := h', toks := tk' }) (e : rawE r g b = x) (F : Fr h₀ L h' m)
    (N : News h₀ L h' ((D, { cls := .type "tuple", data := .seq #[.float (Float64.divmod (Float64.div x 4618441417868443648) 4607182418800017408).snd t1, .float (Float64.div (Float64.add (fMax r g b) (fMin r g b)) 4611686018427387904) t2, .float (Float64.div (Float64.sub (fMax r g b) (fMin r g b)) (Float64.add (fMax r g b) (fMin r g b))) t3] }) :: news)) (hl : ∀ p ∈ news, p.1 < D) (hp : (0 : Nat) < t1 ∧ (0 : Nat) < t2 ∧ (0 : Nat) < t3) : Q (.ref D) { s with heap := h', toks := tk' } := by
  subst e
  exact hret D t1 t2 t3 h' tk' hp F N hl
theorem tok_posF {prog : Program} {w : World} {A : Around} {E : Value → Shared → Prop} {α : Type} {T : Sem α} {Q : α → Shared → Prop} {h : Heap} {g : Array GenState} {d : Drawn} {a b : Nat} {os : OsState} (hp : 0 < a + b) (H : ∀ tk, 0 < tk → wpAny (model prog w) A T Q E ⟨h, g, d, tk, os⟩) :
    wpAny (model prog w) A T Q E ⟨h, g, d, a + b, os⟩ := H _ hp
local macro_rules | `(tactic| walk_at $s:str) => `(tactic| k_extra $s)
section
variable {w : World} {mean : ExcName → Option Value} {mg mb : Str → Option Value} {r g b : UInt64} {tr tg tb : Tok} {news : List (Addr × Obj)} {dp un : Nat} {gd : Option (List Code)} {cn : Str} {cs : Scope} {aa : Addr} {ccd : Value} {cl : List (Str × Addr)} {outer : List Env} {A₀ : Around} {base h₀ : Heap} {L : Addr} {m : Str → Option Value} {s : Shared} {Q E : Value → Shared → Prop}
set_option maxRecDepth 100000 in
set_option maxHeartbeats 4000000 in
theorem hls_wp (h1 : (Float64.cmp (fMin r g b) (fMax r g b) == some .eq) = false) (h2 : (Float64.cmp (Float64.div (Float64.add (fMax r g b) (fMin r g b)) 4611686018427387904) 4602678819172646912 == some .lt || Float64.cmp (Float64.div (Float64.add (fMax r g b) (fMin r g b)) 4611686018427387904) 4602678819172646912 == some .eq) = true)
    (h3 : Float64.isZero (Float64.add (fMax r g b) (fMin r g b)) = false) (h4 : Float64.isZero (Float64.sub (fMax r g b) (fMin r g b)) = false)
    (B : Below A₀ base outer h₀) (F : Fr h₀ L s.heap m) (X : (hd.heap_39 w.params).In h₀) (N : News h₀ L s.heap news) (T : Top hd.view_39 LN mean mg mb h₀) (hk : cs.kind = .function) (hdp : dp + 4 < recursionLimit) (hun : un + 40 < cLine)
    (hret : ∀ (D : Addr) (t1 t2 t3 : Tok) (h' : Heap) (tk' : Nat), ((0 : Nat) < t1 ∧ (0 : Nat) < t2 ∧ (0 : Nat) < t3) → Fr h₀ L h' m → News h₀ L h' ((D, fTup (hlsE r g b) t1 t2 t3) :: news) → (∀ p ∈ news, p.1 < D) → Q (.ref D) { s with heap := h', toks := tk' }) :
    wpAny (model PySem.Challenge.rw_xe0026_01.row.prog w) (ktrTop dp un gd cn cs L aa ccd cl outer) (call (.ref 70) [.float r tr, .float g tg, .float b tb]) Q E s := by
  revert X; k_fill; intro X
  refine wpAny_call ?_
  k_dflt cell_enter
  (w_top off; k_with_none; (k_with "execs cons" => ((k_here; (first | with_reducible refine tok_posF (by omega) ?_ | (dsimp only; with_reducible refine tok_posF (by omega) ?_)); intro _ _))); (k_with "execs nil" => ((k_here; (first | with_reducible refine tok_posF (by omega) ?_ | (dsimp only; with_reducible refine tok_posF (by omega) ?_)); intro _ _))); (k_with "call builtin:max" => ((k_here; (with_reducible refine max_three_ff rfl ‹Fr _ _ _ _› ‹News _ _ _ _› (fun h' tk' tv' F' N' => ?_))))); (k_with "call builtin:min" => ((k_here; (with_reducible refine min_three_ff rfl ‹Fr _ _ _ _› ‹News _ _ _ _› (fun h' tk' tv' F' N' => ?_))))); k_steps)
  all_goals first
    | exact Bool.noConfusion ((show (Float64.cmp (fMin r g b) (fMax r g b) == some .eq) = true by assumption).symm.trans h1)
    | exact Bool.noConfusion ((show (Float64.cmp (Float64.div (Float64.add (fMax r g b) (fMin r g b)) 4611686018427387904) 4602678819172646912 == some .lt || Float64.cmp (Float64.div (Float64.add (fMax r g b) (fMin r g b)) 4611686018427387904) 4602678819172646912 == some .eq) = false by assumption).symm.trans h2)
    | exact Bool.noConfusion ((show Float64.isZero (Float64.add (fMax r g b) (fMin r g b)) = true by assumption).symm.trans h3)
    | exact Bool.noConfusion ((show Float64.isZero (Float64.sub (fMax r g b) (fMin r g b)) = true by assumption).symm.trans h4)
    | exact hls_end hret (raw_r (by assumption)) (by k_asm) (by k_asm) (by assumption) (by first | omega | (dsimp only; omega) | (refine ⟨?_, ?_, ?_⟩ <;> first | omega | exact Nat.succ_pos _))
    | exact hls_end hret (raw_g (by assumption) (by assumption)) (by k_asm) (by k_asm) (by assumption) (by first | omega | (dsimp only; omega) | (refine ⟨?_, ?_, ?_⟩ <;> first | omega | exact Nat.succ_pos _))
    | exact hls_end hret (raw_b (by assumption) (by assumption)) (by k_asm) (by k_asm) (by assumption) (by first | omega | (dsimp only; omega) | (refine ⟨?_, ?_, ?_⟩ <;> first | omega | exact Nat.succ_pos _))
end
end Mine
end
section
open PySem PySem.W PyProof PyProof.Rows
namespace Mine
noncomputable def zText (n : Int) : Str := if n.fmod 16 - 8 < 0 then
  if (n.fdiv 16).fmod 5 = 0 then Str.ofString "-" ++ Str.ofString (toString ((3 * if n.fmod 16 - 8 < 0 then -(n.fmod 16 - 8) else n.fmod 16 - 8).fdiv 10)) ++ Str.ofString (toString ((3 * if n.fmod 16 - 8 < 0 then -(n.fmod 16 - 8) else n.fmod 16 - 8).fmod 10)) ++ Str.ofString ":00" else
  if (n.fdiv 16).fmod 5 = 1 then Str.ofString "-" ++ Str.ofString (toString (3 * if n.fmod 16 - 8 < 0 then -(n.fmod 16 - 8) else n.fmod 16 - 8)) ++ Str.ofString "00" else
  if (n.fdiv 16).fmod 5 = 2 then Str.ofString "-" ++ Str.ofString (toString (3 * if n.fmod 16 - 8 < 0 then -(n.fmod 16 - 8) else n.fmod 16 - 8)) else
  if (n.fdiv 16).fmod 5 = 3 then Str.ofString "-" ++ Str.ofString (toString (3 * if n.fmod 16 - 8 < 0 then -(n.fmod 16 - 8) else n.fmod 16 - 8)) ++ Str.ofString ":0" else
  if (n.fmod 16 - 8).fmod 4 = 0 then Str.ofString "GMT" else if (n.fmod 16 - 8).fmod 4 = 1 then Str.ofString "UTC" else if (n.fmod 16 - 8).fmod 4 = 2 then Str.ofString "UT" else Str.ofString "Z"
 else
  if (n.fdiv 16).fmod 5 = 0 then Str.ofString "+" ++ Str.ofString (toString ((3 * if n.fmod 16 - 8 < 0 then -(n.fmod 16 - 8) else n.fmod 16 - 8).fdiv 10)) ++ Str.ofString (toString ((3 * if n.fmod 16 - 8 < 0 then -(n.fmod 16 - 8) else n.fmod 16 - 8).fmod 10)) ++ Str.ofString ":00" else
  if (n.fdiv 16).fmod 5 = 1 then Str.ofString "" ++ Str.ofString (toString (3 * if n.fmod 16 - 8 < 0 then -(n.fmod 16 - 8) else n.fmod 16 - 8)) ++ Str.ofString "00" else
  if (n.fdiv 16).fmod 5 = 2 then Str.ofString "+" ++ Str.ofString (toString (3 * if n.fmod 16 - 8 < 0 then -(n.fmod 16 - 8) else n.fmod 16 - 8)) else
  if (n.fdiv 16).fmod 5 = 3 then Str.ofString "+" ++ Str.ofString (toString (3 * if n.fmod 16 - 8 < 0 then -(n.fmod 16 - 8) else n.fmod 16 - 8)) ++ Str.ofString ":0" else
  if (n.fmod 16 - 8).fmod 4 = 0 then Str.ofString "GMT" else if (n.fmod 16 - 8).fmod 4 = 1 then Str.ofString "UTC" else if (n.fmod 16 - 8).fmod 4 = 2 then Str.ofString "UT" else Str.ofString "Z"
noncomputable def zStep (n : Int) : Option Int := if (n.fdiv 16).fmod 5 = 0 then some (n.fmod 16 - 8) else if (n.fdiv 16).fmod 5 = 1 then some (n.fmod 16 - 8) else if (n.fdiv 16).fmod 5 = 2 then some (n.fmod 16 - 8) else if (n.fdiv 16).fmod 5 = 3 then none else some 0
noncomputable def stepV : Option Int → Tok → Value | some i, t => .int i t | none, _ => .none
noncomputable abbrev zTup (n : Int) (t1 t2 : Tok) : Obj := { cls := .type "tuple", data := .seq #[.str (zText n) t1, stepV (zStep n) t2] }
theorem zt0n {n : Int} (h : n.fmod 16 - 8 < 0) (e : (n.fdiv 16).fmod 5 = 0) : zText n = Str.ofString "-" ++ Str.ofString (toString ((3 * if n.fmod 16 - 8 < 0 then -(n.fmod 16 - 8) else n.fmod 16 - 8).fdiv 10)) ++ Str.ofString (toString ((3 * if n.fmod 16 - 8 < 0 then -(n.fmod 16 - 8) else n.fmod 16 - 8).fmod 10)) ++ Str.ofString ":00" := Eq.trans (if_pos h) (if_pos e)
theorem zt0p {n : Int} (h : ¬ n.fmod 16 - 8 < 0) (e : (n.fdiv 16).fmod 5 = 0) : zText n = Str.ofString "+" ++ Str.ofString (toString ((3 * if n.fmod 16 - 8 < 0 then -(n.fmod 16 - 8) else n.fmod 16 - 8).fdiv 10)) ++ Str.ofString (toString ((3 * if n.fmod 16 - 8 < 0 then -(n.fmod 16 - 8) else n.fmod 16 - 8).fmod 10)) ++ Str.ofString ":00" := Eq.trans (if_neg h) (if_pos e)
theorem zt1n {n : Int} (h : n.fmod 16 - 8 < 0) (e : (n.fdiv 16).fmod 5 = 1) : zText n = Str.ofString "-" ++ Str.ofString (toString (3 * if n.fmod 16 - 8 < 0 then -(n.fmod 16 - 8) else n.fmod 16 - 8)) ++ Str.ofString "00" := Eq.trans (if_pos h) (Eq.trans (if_neg (show (n.fdiv 16).fmod 5 ≠ 0 from fun c => absurd (c.symm.trans e) (by decide))) (if_pos e))
theorem zt1p {n : Int} (h : ¬ n.fmod 16 - 8 < 0) (e : (n.fdiv 16).fmod 5 = 1) : zText n = Str.ofString "" ++ Str.ofString (toString (3 * if n.fmod 16 - 8 < 0 then -(n.fmod 16 - 8) else n.fmod 16 - 8)) ++ Str.ofString "00" := Eq.trans (if_neg h) (Eq.trans (if_neg (show (n.fdiv 16).fmod 5 ≠ 0 from fun c => absurd (c.symm.trans e) (by decide))) (if_pos e))
theorem zt2n {n : Int} (h : n.fmod 16 - 8 < 0) (e : (n.fdiv 16).fmod 5 = 2) : zText n = Str.ofString "-" ++ Str.ofString (toString (3 * if n.fmod 16 - 8 < 0 then -(n.fmod 16 - 8) else n.fmod 16 - 8)) := Eq.trans (if_pos h) (Eq.trans (if_neg (show (n.fdiv 16).fmod 5 ≠ 0 from fun c => absurd (c.symm.trans e) (by decide))) (Eq.trans (if_neg (show (n.fdiv 16).fmod 5 ≠ 1 from fun c => absurd (c.symm.trans e) (by decide))) (if_pos e)))
theorem zt2p {n : Int} (h : ¬ n.fmod 16 - 8 < 0) (e : (n.fdiv 16).fmod 5 = 2) : zText n = Str.ofString "+" ++ Str.ofString (toString (3 * if n.fmod 16 - 8 < 0 then -(n.fmod 16 - 8) else n.fmod 16 - 8)) := Eq.trans (if_neg h) (Eq.trans (if_neg (show (n.fdiv 16).fmod 5 ≠ 0 from fun c => absurd (c.symm.trans e) (by decide))) (Eq.trans (if_neg (show (n.fdiv 16).fmod 5 ≠ 1 from fun c => absurd (c.symm.trans e) (by decide))) (if_pos e)))
theorem zt3n {n : Int} (h : n.fmod 16 - 8 < 0) (e : (n.fdiv 16).fmod 5 = 3) : zText n = Str.ofString "-" ++ Str.ofString (toString (3 * if n.fmod 16 - 8 < 0 then -(n.fmod 16 - 8) else n.fmod 16 - 8)) ++ Str.ofString ":0" := Eq.trans (if_pos h) (Eq.trans (if_neg (show (n.fdiv 16).fmod 5 ≠ 0 from fun c => absurd (c.symm.trans e) (by decide))) (Eq.trans (if_neg (show (n.fdiv 16).fmod 5 ≠ 1 from fun c => absurd (c.symm.trans e) (by decide))) (Eq.trans (if_neg (show (n.fdiv 16).fmod 5 ≠ 2 from fun c => absurd (c.symm.trans e) (by decide))) (if_pos e))))
theorem zt3p {n : Int} (h : ¬ n.fmod 16 - 8 < 0) (e : (n.fdiv 16).fmod 5 = 3) : zText n = Str.ofString "+" ++ Str.ofString (toString (3 * if n.fmod 16 - 8 < 0 then -(n.fmod 16 - 8) else n.fmod 16 - 8)) ++ Str.ofString ":0" := Eq.trans (if_neg h) (Eq.trans (if_neg (show (n.fdiv 16).fmod 5 ≠ 0 from fun c => absurd (c.symm.trans e) (by decide))) (Eq.trans (if_neg (show (n.fdiv 16).fmod 5 ≠ 1 from fun c => absurd (c.symm.trans e) (by decide))) (Eq.trans (if_neg (show (n.fdiv 16).fmod 5 ≠ 2 from fun c => absurd (c.symm.trans e) (by decide))) (if_pos e))))
theorem zt40 {n : Int} (e0 : (n.fdiv 16).fmod 5 ≠ 0) (e1 : (n.fdiv 16).fmod 5 ≠ 1) (e2 : (n.fdiv 16).fmod 5 ≠ 2) (e3 : (n.fdiv 16).fmod 5 ≠ 3) (h4 : (n.fmod 16 - 8).fmod 4 = 0) : zText n = Str.ofString "GMT" := by
  unfold zText
  simp only [if_neg e0, if_neg e1, if_neg e2, if_neg e3, h4]
  simp
theorem zt41 {n : Int} (e0 : (n.fdiv 16).fmod 5 ≠ 0) (e1 : (n.fdiv 16).fmod 5 ≠ 1) (e2 : (n.fdiv 16).fmod 5 ≠ 2) (e3 : (n.fdiv 16).fmod 5 ≠ 3) (h4 : (n.fmod 16 - 8).fmod 4 = 1) : zText n = Str.ofString "UTC" := by
  unfold zText
  simp only [if_neg e0, if_neg e1, if_neg e2, if_neg e3, h4]
  simp
theorem zt42 {n : Int} (e0 : (n.fdiv 16).fmod 5 ≠ 0) (e1 : (n.fdiv 16).fmod 5 ≠ 1) (e2 : (n.fdiv 16).fmod 5 ≠ 2) (e3 : (n.fdiv 16).fmod 5 ≠ 3) (h4 : (n.fmod 16 - 8).fmod 4 = 2) : zText n = Str.ofString "UT" := by
  unfold zText
  simp only [if_neg e0, if_neg e1, if_neg e2, if_neg e3, h4]
  simp
theorem zt43 {n : Int} (e0 : (n.fdiv 16).fmod 5 ≠ 0) (e1 : (n.fdiv 16).fmod 5 ≠ 1) (e2 : (n.fdiv 16).fmod 5 ≠ 2) (e3 : (n.fdiv 16).fmod 5 ≠ 3) (h4 : (n.fmod 16 - 8).fmod 4 = 3) : zText n = Str.ofString "Z" := by
  unfold zText
  simp only [if_neg e0, if_neg e1, if_neg e2, if_neg e3, h4]
  simp
theorem zs0 {n : Int} {t : Tok} (e : (n.fdiv 16).fmod 5 = 0) : ∃ u, stepV (zStep n) u = .int (n.fmod 16 - 8) t := ⟨t, by rw [show zStep n = some (n.fmod 16 - 8) from if_pos e]; rfl⟩
theorem zs1 {n : Int} {t : Tok} (e : (n.fdiv 16).fmod 5 = 1) : ∃ u, stepV (zStep n) u = .int (n.fmod 16 - 8) t := ⟨t, by rw [show zStep n = some (n.fmod 16 - 8) from Eq.trans (if_neg (show (n.fdiv 16).fmod 5 ≠ 0 from fun c => absurd (c.symm.trans e) (by decide))) (if_pos e)]; rfl⟩
theorem zs2 {n : Int} {t : Tok} (e : (n.fdiv 16).fmod 5 = 2) : ∃ u, stepV (zStep n) u = .int (n.fmod 16 - 8) t := ⟨t, by rw [show zStep n = some (n.fmod 16 - 8) from Eq.trans (if_neg (show (n.fdiv 16).fmod 5 ≠ 0 from fun c => absurd (c.symm.trans e) (by decide))) (Eq.trans (if_neg (show (n.fdiv 16).fmod 5 ≠ 1 from fun c => absurd (c.symm.trans e) (by decide))) (if_pos e))]; rfl⟩
theorem zs3 {n : Int} (e : (n.fdiv 16).fmod 5 = 3) : ∃ u, stepV (zStep n) u = .none := ⟨0, by rw [show zStep n = none from Eq.trans (if_neg (show (n.fdiv 16).fmod 5 ≠ 0 from fun c => absurd (c.symm.trans e) (by decide))) (Eq.trans (if_neg (show (n.fdiv 16).fmod 5 ≠ 1 from fun c => absurd (c.symm.trans e) (by decide))) (Eq.trans (if_neg (show (n.fdiv 16).fmod 5 ≠ 2 from fun c => absurd (c.symm.trans e) (by decide))) (if_pos e)))]; rfl⟩
theorem zs4 {n : Int} {t : Tok} (e0 : (n.fdiv 16).fmod 5 ≠ 0) (e1 : (n.fdiv 16).fmod 5 ≠ 1) (e2 : (n.fdiv 16).fmod 5 ≠ 2) (e3 : (n.fdiv 16).fmod 5 ≠ 3) : ∃ u, stepV (zStep n) u = .int 0 t := ⟨t, by unfold zStep; rw [if_neg e0, if_neg e1, if_neg e2, if_neg e3]; rfl⟩
theorem tok_pos {prog : Program} {w : World} {A : Around} {E : Value → Shared → Prop} {α : Type} {T : Sem α} {Q : α → Shared → Prop} {h : Heap} {g : Array GenState} {d : Drawn} {a b : Nat} {os : OsState} (hp : 0 < a + b) (H : ∀ tk, 0 < tk → wpAny (model prog w) A T Q E ⟨h, g, d, tk, os⟩) :
    wpAny (model prog w) A T Q E ⟨h, g, d, a + b, os⟩ := H _ hp
theorem sub_four {prog : Program} {w : World} {A : Around} {E : Value → Shared → Prop} {s : Shared} {Q : Value → Shared → Prop} {x : Int} {t : Tok} {obj : Value} {e1 e2 : Expr} (h0 : x.fmod 4 = 0 → wpAny (model prog w) A (subscriptTail e1 e2 obj (.int 0 t)) Q E s) (h1 : x.fmod 4 = 1 → wpAny (model prog w) A (subscriptTail e1 e2 obj (.int 1 t)) Q E s) (h2 : x.fmod 4 = 2 → wpAny (model prog w) A (subscriptTail e1 e2 obj (.int 2 t)) Q E s) (h3 : x.fmod 4 = 3 → wpAny (model prog w) A (subscriptTail e1 e2 obj (.int 3 t)) Q E s) :
    wpAny (model prog w) A (subscriptTail e1 e2 obj (.int (x.fmod 4) t)) Q E s := by
  have hx : x.fmod 4 = 0 ∨ x.fmod 4 = 1 ∨ x.fmod 4 = 2 ∨ x.fmod 4 = 3 := by
    rw [Int.fmod_eq_emod_of_nonneg _ (by omega)]; omega
  rcases hx with e | e | e | e
  · rw [e]; exact h0 e
  · rw [e]; exact h1 e
  · rw [e]; exact h2 e
  · rw [e]; exact h3 e
theorem rep_n : Txt.replace (Str.ofString "-") (Str.ofString "+") (Str.ofString "") = Str.ofString "-" := by decide +kernel
theorem rep_p : Txt.replace (Str.ofString "+") (Str.ofString "+") (Str.ofString "") = Str.ofString "" := by decide +kernel
theorem repl_n {prog : Program} {w : World} {A : Around} {E : Value → Shared → Prop} {s : Shared} {t u v : Tok} {Q : Value → Shared → Prop} (hu : u ≠ 0) (hv : v ≠ 0) (huv : u ≠ v) (hq : ∀ t' k, Q (.str (Str.ofString "-") t') { s with toks := k }) :
    wpAny (model prog w) A (call (.builtin "str.replace") [.str (Str.ofString "-") t, .str (Str.ofString "+") u, .str (Str.ofString "") v]) Q E s :=
  SC.replace hu hv huv (by decide +kernel) (by decide +kernel) (fun t' k => by rw [rep_n]; exact hq t' k)
theorem repl_p {prog : Program} {w : World} {A : Around} {E : Value → Shared → Prop} {s : Shared} {t u v : Tok} {Q : Value → Shared → Prop} (hu : u ≠ 0) (hv : v ≠ 0) (huv : u ≠ v) (hq : ∀ t' k, Q (.str (Str.ofString "") t') { s with toks := k }) :
    wpAny (model prog w) A (call (.builtin "str.replace") [.str (Str.ofString "+") t, .str (Str.ofString "+") u, .str (Str.ofString "") v]) Q E s :=
  SC.replace hu hv huv (by decide +kernel) (by decide +kernel) (fun t' k => by rw [rep_p]; exact hq t' k)
theorem z_end {h₀ : Heap} {L : Addr} {m : Str → Option Value} {news : List (Addr × Obj)} {s : Shared} {Q : Value → Shared → Prop} {n : Int} {x : Str} {y : Value} {D : Addr} {h' : Heap} {t1 tk' : Nat}
    (hret : ∀ (D : Addr) (t1 t2 : Tok) (h' : Heap) (tk' : Nat), Fr h₀ L h' m → News h₀ L h' ((D, zTup n t1 t2) :: news) → (∀ p ∈ news, p.1 < D) → Q (.ref D) { s with heap := h', toks := tk' }) (F : Fr h₀ L h' m)
    (N : News h₀ L h' ((D, { cls := .type "tuple", data := .seq #[.str x t1, y] }) :: news)) (hl : ∀ p ∈ news, p.1 < D) (e1 : zText n = x) (e2 : ∃ u, stepV (zStep n) u = y) : Q (.ref D) { s with heap := h', toks := tk' } := by
  obtain ⟨u, rfl⟩ := e2
  subst e1
  exact hret D t1 u h' tk' F N hl
theorem z_end2 {h₀ : Heap} {L : Addr} {m : Str → Option Value} {news : List (Addr × Obj)} {s : Shared} {Q : Value → Shared → Prop} {n : Int} {x : Str} {y : Value} {D D1 : Addr} {o1 : Obj} {h' : Heap} {t1 tk' : Nat}
    (hret : ∀ (D : Addr) (t1 t2 : Tok) (h' : Heap) (tk' : Nat), Fr h₀ L h' m → News h₀ L h' ((D, zTup n t1 t2) :: news) → (∀ p ∈ news, p.1 < D) → Q (.ref D) { s with heap := h', toks := tk' }) (F : Fr h₀ L h' m)
    (N : News h₀ L h' ((D, { cls := .type "tuple", data := .seq #[.str x t1, y] }) :: (D1, o1) :: news)) (hl : D1 < D ∧ AllLt D news) (e1 : zText n = x) (e2 : ∃ u, stepV (zStep n) u = y) : Q (.ref D) { s with heap := h', toks := tk' } :=
  z_end hret F (fun q hq => (List.mem_cons.mp hq).elim (fun e => e ▸ N _ (.head _)) fun h => N _ (.tail _ (.tail _ h))) (kst_ltOf hl.2) e1 e2
local macro_rules | `(tactic| walk_at $s:str) => `(tactic| k_extra $s)
section
variable {w : World} {mean : ExcName → Option Value} {mg mb : Str → Option Value} {n : Int} {tn : Tok} {news : List (Addr × Obj)} {dp un : Nat} {gd : Option (List Code)} {cn : Str} {cs : Scope} {aa : Addr} {ccd : Value} {cl : List (Str × Addr)} {outer : List Env} {A₀ : Around} {base h₀ : Heap} {L : Addr} {m : Str → Option Value} {s : Shared} {Q E : Value → Shared → Prop}
set_option maxRecDepth 100000 in
set_option maxHeartbeats 4000000 in
theorem zone_wp (hn0 : 0 ≤ n) (hn1 : n < 1000000)
    (B : Below A₀ base outer h₀) (F : Fr h₀ L s.heap m) (X : (hd.heap_39 w.params).In h₀) (N : News h₀ L s.heap news) (T : Top hd.view_39 LN mean mg mb h₀) (hk : cs.kind = .function) (hdp : dp + 4 < recursionLimit) (hun : un + 40 < cLine)
    (hret : ∀ (D : Addr) (t1 t2 : Tok) (h' : Heap) (tk' : Nat), Fr h₀ L h' m → News h₀ L h' ((D, zTup n t1 t2) :: news) → (∀ p ∈ news, p.1 < D) → Q (.ref D) { s with heap := h', toks := tk' }) :
    wpAny (model PySem.Challenge.rw_xe0026_01.row.prog w) (ktrTop dp un gd cn cs L aa ccd cl outer) (call (.ref 106) [.int n tn]) Q E s := by
  revert X; k_fill; intro X
  refine wpAny_call ?_
  k_dflt cell_enter
  (w_top off; k_with_none; (k_with "execs cons" => ((k_here; (first | with_reducible refine tok_pos (by omega) ?_ | (dsimp only; with_reducible refine tok_pos (by omega) ?_)); intro _ _))); (k_with "execs nil" => ((k_here; (first | with_reducible refine tok_pos (by omega) ?_ | (dsimp only; with_reducible refine tok_pos (by omega) ?_)); intro _ _))); (k_with "subscriptTail" => ((k_here; (with_reducible refine sub_four (fun c => ?_) (fun c => ?_) (fun c => ?_) (fun c => ?_))))); (k_with "call builtin:str.replace" => ((k_here; first | (refine repl_n (by (show @Ne Nat _ _); omega) (by (show @Ne Nat _ _); omega) (by (show @Ne Nat _ _); omega) (fun t' k' => ?_)) | (refine repl_p (by (show @Ne Nat _ _); omega) (by (show @Ne Nat _ _); omega) (by (show @Ne Nat _ _); omega) (fun t' k' => ?_))))); k_steps)
  all_goals first
    | (first | refine z_end hret (by k_asm) (by k_asm) (by assumption) ?_ ?_ | refine z_end2 hret (by k_asm) (by k_asm) (by assumption) ?_ ?_
       · first
           | with_reducible exact zt0n (by assumption) (by assumption)
           | with_reducible exact zt0p (by assumption) (by assumption)
           | with_reducible exact zt1n (by assumption) (by assumption)
           | with_reducible exact zt1p (by assumption) (by assumption)
           | with_reducible exact zt2n (by assumption) (by assumption)
           | with_reducible exact zt2p (by assumption) (by assumption)
           | with_reducible exact zt3n (by assumption) (by assumption)
           | with_reducible exact zt3p (by assumption) (by assumption)
           | with_reducible exact zt40 (by assumption) (by assumption) (by assumption) (by assumption) (by assumption)
           | with_reducible exact zt41 (by assumption) (by assumption) (by assumption) (by assumption) (by assumption)
           | with_reducible exact zt42 (by assumption) (by assumption) (by assumption) (by assumption) (by assumption)
           | with_reducible exact zt43 (by assumption) (by assumption) (by assumption) (by assumption) (by assumption)
       · first
           | with_reducible exact zs0 (by assumption)
           | with_reducible exact zs1 (by assumption)
           | with_reducible exact zs2 (by assumption)
           | with_reducible exact zs3 (by assumption)
           | with_reducible exact zs4 (by assumption) (by assumption) (by assumption) (by assumption))
end
end Mine
end
section
open PySem PySem.W PyProof PyProof.Rows
namespace Mine
/-- what the law asks of a zone and of its steps -/
noncomputable def zOk (n : Int) : Bool := match zStep n with
  | none => decide (found code36 3 (zText n) = some none) && !isZone (zText n) && decide ((zText n).length ≤ 6) && decide (1 ≤ (zText n).length)
  | some st => decide (offB (zText n) = some (10800 * st)) && decide ((zText n).length ≤ 6) && decide (1 ≤ (zText n).length) && decide (-8 ≤ st) && decide (st < 8)
theorem z_0 : ∀ k : Fin 8, zOk ((k.val + 0 : Nat) : Int) = true := by decide +kernel
theorem z_1 : ∀ k : Fin 8, zOk ((k.val + 8 : Nat) : Int) = true := by decide +kernel
theorem z_2 : ∀ k : Fin 8, zOk ((k.val + 16 : Nat) : Int) = true := by decide +kernel
theorem z_3 : ∀ k : Fin 8, zOk ((k.val + 24 : Nat) : Int) = true := by decide +kernel
theorem z_4 : ∀ k : Fin 8, zOk ((k.val + 32 : Nat) : Int) = true := by decide +kernel
theorem z_5 : ∀ k : Fin 8, zOk ((k.val + 40 : Nat) : Int) = true := by decide +kernel
theorem z_6 : ∀ k : Fin 8, zOk ((k.val + 48 : Nat) : Int) = true := by decide +kernel
theorem z_7 : ∀ k : Fin 8, zOk ((k.val + 56 : Nat) : Int) = true := by decide +kernel
theorem z_8 : ∀ k : Fin 8, zOk ((k.val + 64 : Nat) : Int) = true := by decide +kernel
theorem z_9 : ∀ k : Fin 8, zOk ((k.val + 72 : Nat) : Int) = true := by decide +kernel
theorem z_ok : ∀ k : Fin 80, zOk (k.val : Int) = true := by
  intro k
  obtain ⟨b, hb, e⟩ : ∃ b : Fin 8, ∃ a : Fin 10, k.val = b.val + 8 * a.val := ⟨⟨k.val % 8, by omega⟩, ⟨k.val / 8, by omega⟩, by dsimp only; omega⟩
  rw [e]
  match hb with
  | ⟨0, _⟩ => exact z_0 b
  | ⟨1, _⟩ => exact z_1 b
  | ⟨2, _⟩ => exact z_2 b
  | ⟨3, _⟩ => exact z_3 b
  | ⟨4, _⟩ => exact z_4 b
  | ⟨5, _⟩ => exact z_5 b
  | ⟨6, _⟩ => exact z_6 b
  | ⟨7, _⟩ => exact z_7 b
  | ⟨8, _⟩ => exact z_8 b
  | ⟨9, _⟩ => exact z_9 b
noncomputable def eighth (j : Int) : UInt64 := Float64.ofFrac (decide (j < 0) != decide ((8 : Int) < 0)) j.natAbs (Int.natAbs 8)
noncomputable def fOk (st : Int) : Bool :=
  !Float64.isInf (turnE (10800 * st)) && !Float64.isNaN (hueE (10800 * st)) && !Float64.isInf (hueE (10800 * st)) && decide ((iE (10800 * st)).natAbs < 2 ^ 1024 - 2 ^ 970)
  && (let c := paintE (10800 * st); let M := fMax c.1 c.2.1 c.2.2; let m := fMin c.1 c.2.1 c.2.2
    !(Float64.cmp m M == some .eq) && (Float64.cmp (Float64.div (Float64.add M m) 4611686018427387904) 4602678819172646912 == some .lt || Float64.cmp (Float64.div (Float64.add M m) 4611686018427387904) 4602678819172646912 == some .eq)
    && !Float64.isZero (Float64.add M m) && !Float64.isZero (Float64.sub M m) && decide (hlsE c.1 c.2.1 c.2.2 = (eighth (st.fmod 8), 4602678819172646912, 4607182418800017408)))
theorem f_ok : ∀ k : Fin 16, fOk ((k.val : Int) - 8) = true := by decide +kernel
end Mine
end
section
open PySem PySem.W PyProof PyProof.Rows
namespace Mine
theorem z_res (n : Int) : (n % 80).fmod 16 = n.fmod 16 ∧ ((n % 80).fdiv 16).fmod 5 = (n.fdiv 16).fmod 5 := by
  rw [Int.fmod_eq_emod_of_nonneg _ (by omega), Int.fmod_eq_emod_of_nonneg _ (by omega), Int.fmod_eq_emod_of_nonneg _ (by omega), Int.fmod_eq_emod_of_nonneg _ (by omega), Int.fdiv_eq_ediv_of_nonneg _ (by omega), Int.fdiv_eq_ediv_of_nonneg _ (by omega)]
  omega
theorem zText_res (n : Int) : zText (n % 80) = zText n := by
  unfold zText; rw [(z_res n).1, (z_res n).2]
theorem zStep_res (n : Int) : zStep (n % 80) = zStep n := by
  unfold zStep; rw [(z_res n).1, (z_res n).2]
theorem z_all (n : Int) : zOk n = true := by
  have h := z_ok ⟨(n % 80).toNat, by omega⟩
  have e : (((n % 80).toNat : Nat) : Int) = n % 80 := by omega
  dsimp only at h
  rw [e] at h
  unfold zOk at h ⊢
  rw [zText_res, zStep_res] at h
  exact h
theorem f_all (st : Int) (h0 : -8 ≤ st) (h1 : st < 8) : fOk st = true := by
  have h := f_ok ⟨(st + 8).toNat, by omega⟩
  have e : (((st + 8).toNat : Nat) : Int) - 8 = st := by omega
  dsimp only at h
  rw [e] at h
  exact h
end Mine
end
section
open PySem PySem.W PyProof PyProof.Rows
namespace Mine
noncomputable def ringE (f : Int) : Str := Str.ofString "." ++ Txt.slice (Str.ofString "907") none (some f) ++ Txt.slice (Str.ofString "abcdefg") none (some (7 - f))
noncomputable def rotE (f p : Int) : Str := Txt.slice (ringE f) (some p) none ++ Txt.slice (ringE f) none (some p)
/-- what is_HDN tells of a rotation -/
noncomputable def hOk (f p : Int) : Bool := match found code55 0 (rotE f p) with
  | some r => hdn r (rotE f p) == decide (p > f + 1)
  | none => false
theorem h_ok : ∀ f : Fin 4, ∀ p : Fin 8, hOk (f.val : Int) (p.val : Int) = true := by decide +kernel
end Mine
end
section
open PySem PySem.W PyProof PyProof.Rows
namespace Mine
noncomputable def minOk (a b : Str) : Nat → Bool
  | 0 => true
  | k + 1 => minOk a b k && decide ((inN a (Txt.item b k) k (outN a b k).2 8).2.2.1 ≤ 16)
/-- two rotations a way apart -/
noncomputable def dOk (f p q : Int) : Bool := let a := rotE f p; let b := rotE f q
  !(a == b) && !(Txt.item a 0 == Txt.item b 0) && !(Txt.item a (0 - 1) == Txt.item b (0 - 1)) && minOk a b 8 && decide ((outN a b 8).1 = 4 * min (q - p) (8 - (q - p)))
/-! the way depends on the signs' costs alone, and they on the places alone: seven ways do for all pairs of rotations -/
theorem inN_congr {a bc a' bc' : Str} (h : ∀ i : Nat, i < 8 → subCost bc (Txt.item a i) = subCost bc' (Txt.item a' i)) (bi : Int) (row : List Int) :
    ∀ n : Nat, n ≤ 8 → inN a bc bi row n = inN a' bc' bi row n
  | 0, _ => rfl
  | k + 1, hk => by
    have e := inN_congr h bi row k (by omega)
    have c := h k (by omega)
    have n : ∀ d r w, inNew a bc d r w (k : Int) = inNew a' bc' d r w (k : Int) := fun d r w => by unfold inNew; rw [c]
    unfold inN
    rw [e]
    unfold inStep
    rw [n]
theorem outN_congr {a b a' b' : Str} (h : ∀ k i : Nat, k < 8 → i < 8 → subCost (Txt.item b k) (Txt.item a i) = subCost (Txt.item b' k) (Txt.item a' i)) :
    ∀ n : Nat, n ≤ 8 → outN a b n = outN a' b' n
  | 0, _ => rfl
  | k + 1, hk => by
    unfold outN
    rw [outN_congr h k (by omega), inN_congr (fun i hi => h k i (by omega) hi) _ _ 8 (Nat.le_refl 8)]
theorem minOk_congr {a b a' b' : Str} (h : ∀ k i : Nat, k < 8 → i < 8 → subCost (Txt.item b k) (Txt.item a i) = subCost (Txt.item b' k) (Txt.item a' i)) :
    ∀ n : Nat, n ≤ 8 → minOk a b n = minOk a' b' n
  | 0, _ => rfl
  | k + 1, hk => by
    unfold minOk
    rw [minOk_congr h k (by omega), outN_congr h k (by omega), inN_congr (fun i hi => h k i (by omega) hi) _ _ 8 (Nat.le_refl 8)]
theorem place_ok : ∀ f : Fin 4, ∀ p i : Fin 8, Txt.item (rotE (f.val : Int) (p.val : Int)) (i.val : Int) = Txt.item (ringE (f.val : Int)) (((p.val + i.val) % 8 : Nat) : Int) := by decide +kernel
theorem sign_ok : ∀ f : Fin 4, ∀ i j : Fin 8, subCost (Txt.item (ringE (f.val : Int)) (i.val : Int)) (Txt.item (ringE (f.val : Int)) (j.val : Int)) = if i.val = j.val then 0 else 2 := by decide +kernel
theorem cost_rot (f : Fin 4) (p q k i : Fin 8) : subCost (Txt.item (rotE (f.val : Int) (q.val : Int)) (k.val : Int)) (Txt.item (rotE (f.val : Int) (p.val : Int)) (i.val : Int)) = if (q.val + k.val) % 8 = (p.val + i.val) % 8 then 0 else 2 := by
  rw [place_ok, place_ok]
  exact sign_ok f ⟨(q.val + k.val) % 8, by omega⟩ ⟨(p.val + i.val) % 8, by omega⟩
theorem way_ok : ∀ d : Fin 8, 0 < d.val → (minOk (rotE 0 0) (rotE 0 (d.val : Int)) 8 && decide ((outN (rotE 0 0) (rotE 0 (d.val : Int)) 8).1 = 4 * min (d.val : Int) (8 - d.val))) = true := by decide +kernel
theorem ends_ok : ∀ f : Fin 4, ∀ p q : Fin 8, p.val < q.val → (!(rotE (f.val : Int) (p.val : Int) == rotE (f.val : Int) (q.val : Int)) && !(Txt.item (rotE (f.val : Int) (p.val : Int)) 0 == Txt.item (rotE (f.val : Int) (q.val : Int)) 0) && !(Txt.item (rotE (f.val : Int) (p.val : Int)) (0 - 1) == Txt.item (rotE (f.val : Int) (q.val : Int)) (0 - 1))) = true := by decide +kernel
theorem d_ok : ∀ f : Fin 4, ∀ p : Fin 8, ∀ q : Fin 8, p.val < q.val → dOk (f.val : Int) (p.val : Int) (q.val : Int) = true := by
  intro f p q h
  have hp := p.isLt
  have hq := q.isLt
  have hc : ∀ k i : Nat, k < 8 → i < 8 → subCost (Txt.item (rotE (f.val : Int) (q.val : Int)) k) (Txt.item (rotE (f.val : Int) (p.val : Int)) i) = subCost (Txt.item (rotE 0 ((q.val - p.val : Nat) : Int)) k) (Txt.item (rotE 0 0) i) := fun k i hk hi => by
    refine (cost_rot f p q ⟨k, hk⟩ ⟨i, hi⟩).trans (Eq.trans ?_ (cost_rot 0 0 ⟨q.val - p.val, by omega⟩ ⟨k, hk⟩ ⟨i, hi⟩).symm)
    have e : ((q.val + k) % 8 = (p.val + i) % 8) ↔ ((q.val - p.val + k) % 8 = (0 + i) % 8) := by omega
    exact ite_congr (propext e) (fun _ => rfl) (fun _ => rfl)
  have w := way_ok ⟨q.val - p.val, by omega⟩ (show 0 < q.val - p.val by omega)
  have e : (((q.val - p.val : Nat) : Int)) = (q.val : Int) - (p.val : Int) := by omega
  dsimp only at w
  rw [← minOk_congr hc 8 (Nat.le_refl 8), ← outN_congr hc 8 (Nat.le_refl 8), e] at w
  unfold dOk
  dsimp only
  rw [Bool.and_assoc, ends_ok f p q h, Bool.true_and]
  exact w
/-- what the bare text of a rotation is -/
noncomputable def bOk (f p : Int) : Bool := match found code55 0 (rotE f p) with
  | some none => decide (p < 2 ∨ p > f + 1)
  | some (some (_, sp)) => decide (2 ≤ p ∧ p ≤ f + 1) && decide (sp.length = 2) && (Txt.slice (rotE f p) none (some (sp.getD 0 (-1))) ++ Txt.slice (rotE f p) (some (sp.getD 1 (-1))) none == Txt.slice (ringE f) (some p) none)
      && !(rotE f p == Txt.slice (ringE f) (some p) none) && (List.range (8 - p.toNat)).all (fun i => Txt.item (rotE f p) (i : Int) == Txt.item (Txt.slice (ringE f) (some p) none) (i : Int)) && decide ((Txt.slice (ringE f) (some p) none).length = 8 - p.toNat)
  | none => false
theorem b_ok : ∀ f : Fin 4, ∀ p : Fin 8, bOk (f.val : Int) (p.val : Int) = true := by decide +kernel
end Mine
end
section
open PySem PySem.W PyProof PyProof.Rows
namespace Mine
/-- the eighths are ordered as their numbers are, and come back as them -/
theorem e_lt : ∀ i : Fin 8, ∀ j : Fin 8, fLt (eighth (i.val : Int)) (eighth (j.val : Int)) = decide (i.val < j.val) := by decide +kernel
theorem e_int : ∀ i : Fin 8, Flt.toInt Float64.truncOf (Float64.mul (eighth (i.val : Int)) (Float64.ofInt 8)) = (i.val : Int) ∧ Float64.isNaN (Float64.mul (eighth (i.val : Int)) (Float64.ofInt 8)) = false ∧ Float64.isInf (Float64.mul (eighth (i.val : Int)) (Float64.ofInt 8)) = false := by decide +kernel
end Mine
end
section
open PySem PySem.W PyProof PyProof.Rows
namespace Mine
theorem shead {x : Str} {j : Int} (h0 : 0 ≤ j) (h1 : j ≤ x.length) : (Txt.slice x none (some j)).length = j.toNat := by
  rw [beq_iff_eq.mp (slice_closes_toL h0 h1)]
  have : x.cps.toList.length = x.length := rfl
  simp only [PySem.Str.length, List.size_toArray, List.length_take, List.length_drop] at *
  omega
section
open PySem.Spec
variable {prog : Program} {w : World} {A : Around} {E : Value → Shared → Prop} {s : Shared} {value slice : Expr} {x y : Str} {t : Tok} {h₀ : Heap} {L : Addr} {m : Str → Option Value} {news : List (Addr × Obj)} {Q : Value → Shared → Prop}
theorem sl_head {i : Int} {ui : Tok} (h0 : 0 ≤ i) (h1 : i ≤ x.length) (hF : Fr h₀ L s.heap m) (hN : News h₀ L s.heap news) (h : ∀ (y : Str) h' t' k, y = Txt.slice x none (some i) → y.length = i.toNat → Fr h₀ L h' m → News h₀ L h' news → Q (.str y t') { s with heap := h', toks := k })
    (hs : subscripted slice false (.str x t) (.ref s.heap.objs.size) = operate [.ref s.heap.objs.size, .str x t] (getItem (.str x t) (.ref s.heap.objs.size)) := by with_unfolding_all rfl)
    (ht : ∀ r, letTemporaryGo value (.str x t) r = pure () := by intro _; with_unfolding_all rfl) (hsz : x.length ≤ sizeLine := by size_fits) :
    wpAny (model prog w) A (subscriptTail value slice (.str x t) (.ref s.heap.objs.size)) Q E { s with heap := s.heap.push { cls := .type "slice", data := .fields #[.none, .int i ui, .none] } } :=
  slice_strN_ns hF hN (fun h' t' k a b => h _ h' t' k rfl (shead h0 h1) a b) hs ht hsz
theorem mod_four {i : Int} {u : Tok} {A : Around} (h : ∀ f : Int, 0 ≤ f → f ≤ 3 → Q (.int f s.toks) { s with toks := s.toks + 1 }) : wpAny (model prog w) A (binaryOp .Mod (.int i t) (.int 4 u)) Q E s := by
  refine mod_int' (by decide) (h _ ?_ ?_)
  · rw [Int.fmod_eq_emod_of_nonneg _ (by omega)]; omega
  · rw [Int.fmod_eq_emod_of_nonneg _ (by omega)]; omega
end
theorem len907 : (Str.ofString "907").length = 3 := by decide +kernel
theorem lenabc : (Str.ofString "abcdefg").length = 7 := by decide +kernel
theorem lendot : (Str.ofString ".").length = 1 := by decide +kernel
theorem le907 {f : Int} (h : f ≤ 3) : f ≤ (Str.ofString "907").length := by rw [len907]; omega
theorem leabc {f : Int} (h : f ≤ 7) : f ≤ (Str.ofString "abcdefg").length := by rw [lenabc]; omega
end Mine
end
section
open PySem PySem.W PyProof PyProof.Rows
namespace Mine
structure ZNo (x : Str) : Prop where
  f : found code36 3 x = some none
  z : isZone x = false
  l6 : x.length ≤ 6
  l1 : 1 ≤ x.length
structure ZYes (x : Str) (st : Int) : Prop where
  o : offB x = some (10800 * st)
  l6 : x.length ≤ 6
  l1 : 1 ≤ x.length
  lo : -8 ≤ st
  hi : st < 8
structure Painted (st : Int) (r g b : UInt64) : Prop where
  e : paintE (10800 * st) = (r, g, b)
  lo : -8 ≤ st
  hi : st < 8
theorem z_cases (n : Int) : (zStep n = none ∧ ZNo (zText n)) ∨ ∃ st, zStep n = some st ∧ ZYes (zText n) st := by
  have h := z_all n
  unfold zOk at h
  cases hz : zStep n with
  | none =>
    rw [hz] at h
    simp only [Bool.and_eq_true, decide_eq_true_eq, Bool.not_eq_true'] at h
    exact .inl ⟨rfl, h.1.1.1, h.1.1.2, h.1.2, h.2⟩
  | some st =>
    rw [hz] at h
    simp only [Bool.and_eq_true, decide_eq_true_eq] at h
    exact .inr ⟨st, rfl, h.1.1.1.1, h.1.1.1.2, h.1.1.2, h.1.2, h.2⟩
structure FFacts (st : Int) (r g b : UInt64) : Prop where
  h1 : (Float64.cmp (fMin r g b) (fMax r g b) == some .eq) = false
  h2 : (Float64.cmp (Float64.div (Float64.add (fMax r g b) (fMin r g b)) 4611686018427387904) 4602678819172646912 == some .lt || Float64.cmp (Float64.div (Float64.add (fMax r g b) (fMin r g b)) 4611686018427387904) 4602678819172646912 == some .eq) = true
  h3 : Float64.isZero (Float64.add (fMax r g b) (fMin r g b)) = false
  h4 : Float64.isZero (Float64.sub (fMax r g b) (fMin r g b)) = false
  e : hlsE r g b = (eighth (st.fmod 8), 4602678819172646912, 4607182418800017408)
structure TFacts (st : Int) : Prop where
  a : Float64.isInf (turnE (10800 * st)) = false
  b : Float64.isNaN (hueE (10800 * st)) = false
  c : Float64.isInf (hueE (10800 * st)) = false
  d : (iE (10800 * st)).natAbs < 2 ^ 1024 - 2 ^ 970
theorem f_cases {st : Int} (h0 : -8 ≤ st) (h1 : st < 8) : TFacts st ∧ FFacts st (paintE (10800 * st)).1 (paintE (10800 * st)).2.1 (paintE (10800 * st)).2.2 := by
  have h := f_all st h0 h1
  unfold fOk at h
  simp only [Bool.and_eq_true, Bool.not_eq_true', decide_eq_true_eq] at h
  obtain ⟨⟨⟨⟨ha, hb⟩, hc⟩, hd⟩, ⟨⟨⟨he, hf⟩, hg⟩, hh⟩, hi⟩ := h
  exact ⟨⟨ha, hb, hc, hd⟩, ⟨he, hf, hg, hh, hi⟩⟩
theorem Painted.facts {st : Int} {r g b : UInt64} (p : Painted st r g b) : FFacts st r g b := by
  have h := (f_cases p.lo p.hi).2
  rw [p.e] at h
  exact h
section
variable {w : World} {mean : ExcName → Option Value} {mg mb : Str → Option Value} {x : Str} {tx tw : Tok} {news : List (Addr × Obj)} {dp un : Nat} {gd : Option (List Code)} {cn : Str} {cs : Scope} {aa : Addr} {ccd : Value} {cl : List (Str × Addr)} {outer : List Env} {A₀ : Around} {base h₀ : Heap} {L : Addr} {m : Str → Option Value} {s : Shared} {Q E : Value → Shared → Prop}
theorem zone_use {n : Int} {tn : Tok} (h0 : 0 ≤ n) (h1 : n < 1000000)
    (B : Below A₀ base outer h₀) (F : Fr h₀ L s.heap m) (X : (hd.heap_39 w.params).In h₀) (N : News h₀ L s.heap news) (T : Top hd.view_39 LN mean mg mb h₀) (hk : cs.kind = .function) (hdp : dp + 4 < recursionLimit) (hun : un + 40 < cLine)
    (hno : ∀ (y : Str), ZNo y → ∀ (D : Addr) (t1 : Tok) (h' : Heap) (tk' : Nat), Fr h₀ L h' m → News h₀ L h' ((D, { cls := .type "tuple", data := .seq #[.str y t1, .none] }) :: news) → (∀ p ∈ news, p.1 < D) → Q (.ref D) { s with heap := h', toks := tk' })
    (hyes : ∀ (y : Str) (st : Int), ZYes y st → ∀ (D : Addr) (t1 t2 : Tok) (h' : Heap) (tk' : Nat), Fr h₀ L h' m → News h₀ L h' ((D, { cls := .type "tuple", data := .seq #[.str y t1, .int st t2] }) :: news) → (∀ p ∈ news, p.1 < D) → Q (.ref D) { s with heap := h', toks := tk' }) :
    wpAny (model PySem.Challenge.rw_xe0026_01.row.prog w) (ktrTop dp un gd cn cs L aa ccd cl outer) (call (.ref 106) [.int n tn]) Q E s := by
  refine zone_wp h0 h1 B F X N T hk hdp hun ?_
  intro D t1 t2 h' tk' F' N' l1
  rcases z_cases n with ⟨e, z⟩ | ⟨st, e, z⟩
  · refine hno _ z D t1 h' tk' F' ?_ l1
    unfold zTup at N'
    rw [e] at N'
    exact N'
  · refine hyes _ st z D t1 t2 h' tk' F' ?_ l1
    unfold zTup at N'
    rw [e] at N'
    exact N'
theorem paint_no (z : ZNo x)
    (B : Below A₀ base [] h₀) (F : Fr h₀ L s.heap m) (X : (hd.heap_39 w.params).In h₀) (N : News h₀ L s.heap news) (T : Top hd.view_39 LN mean mg mb h₀) (XB : (hd.heap_39 w.params).In base) (TB : Top hd.view_39 LN mean mg mb base) (hk : cs.kind = .function) (hdp : dp + 9 < recursionLimit) (hun : un + 99 < cLine)
    (hret : ∀ (t : Tok) (h' : Heap) (tk' : Nat), Fr h₀ L h' m → News h₀ L h' news → Q (.str (Str.ofString "<zone _law_paint() failed>") t) { s with heap := h', toks := tk' }) :
    wpAny (model PySem.Challenge.rw_xe0026_01.row.prog w) (ktrTop dp un gd cn cs L aa ccd cl []) (call (.ref 85) [.str x tx, .str (Str.ofString "zone") tw, .ref 113]) Q E s :=
  paint_none z.l6 z.l1 z.f z.z B F X N T XB TB hk hdp hun hret
theorem hls_use {st : Int} {r g b : UInt64} {tr tg tb : Tok} (p : Painted st r g b)
    (B : Below A₀ base outer h₀) (F : Fr h₀ L s.heap m) (X : (hd.heap_39 w.params).In h₀) (N : News h₀ L s.heap news) (T : Top hd.view_39 LN mean mg mb h₀) (hk : cs.kind = .function) (hdp : dp + 4 < recursionLimit) (hun : un + 40 < cLine)
    (hret : ∀ (D : Addr) (t1 t2 t3 : Tok) (h' : Heap) (tk' : Nat), ((0 : Nat) < t1 ∧ (0 : Nat) < t2 ∧ (0 : Nat) < t3) → Fr h₀ L h' m → News h₀ L h' ((D, { cls := .type "tuple", data := .seq #[.float (eighth (st.fmod 8)) t1, .float 4602678819172646912 t2, .float 4607182418800017408 t3] }) :: news) → (∀ p ∈ news, p.1 < D) → Q (.ref D) { s with heap := h', toks := tk' }) :
    wpAny (model PySem.Challenge.rw_xe0026_01.row.prog w) (ktrTop dp un gd cn cs L aa ccd cl outer) (call (.ref 70) [.float r tr, .float g tg, .float b tb]) Q E s := by
  have f := p.facts
  refine hls_wp f.h1 f.h2 f.h3 f.h4 B F X N T hk hdp hun ?_
  intro D t1 t2 t3 h' tk' hp F' N' l1
  refine hret D t1 t2 t3 h' tk' hp F' ?_ l1
  unfold fTup at N'
  rw [f.e] at N'
  exact N'
end
end Mine
end
section
open PySem PySem.W PyProof PyProof.Rows PySem.Calls
namespace Mine
section
variable {w : World} {mean : ExcName → Option Value} {mg mb : Str → Option Value} {x : Str} {tx tw : Tok} {news : List (Addr × Obj)} {dp un : Nat} {gd : Option (List Code)} {cn : Str} {cs : Scope} {aa : Addr} {ccd : Value} {cl : List (Str × Addr)} {outer : List Env} {A₀ : Around} {base h₀ : Heap} {L : Addr} {m : Str → Option Value} {s : Shared} {Q E : Value → Shared → Prop}
theorem paint_yes {st : Int} (z : ZYes x st)
    (B : Below A₀ base [] h₀) (F : Fr h₀ L s.heap m) (X : (hd.heap_39 w.params).In h₀) (N : News h₀ L s.heap news) (T : Top hd.view_39 LN mean mg mb h₀) (XB : (hd.heap_39 w.params).In base) (TB : Top hd.view_39 LN mean mg mb base) (hk : cs.kind = .function) (hdp : dp + 9 < recursionLimit) (hun : un + 99 < cLine)
    (hret : ∀ (r g b : UInt64), Painted st r g b → ∀ (D : Addr) (t1 t2 t3 : Tok) (h' : Heap) (tk' : Nat), Fr h₀ L h' m → News h₀ L h' ((D, { cls := .type "tuple", data := .seq #[.float r t1, .float g t2, .float b t3] }) :: news) → (∀ p ∈ news, p.1 < D) → Q (.ref D) { s with heap := h', toks := tk' }) :
    wpAny (model PySem.Challenge.rw_xe0026_01.row.prog w) (ktrTop dp un gd cn cs L aa ccd cl []) (call (.ref 85) [.str x tx, .str (Str.ofString "zone") tw, .ref 113]) Q E s := by
  have f := (f_cases z.lo z.hi).1
  refine paint_some z.l6 z.l1 z.o f.a f.b f.c f.d B F X N T XB TB hk hdp hun ?_
  intro D t1 t2 t3 h' tk' F' N' l1
  exact hret _ _ _ ⟨rfl, z.lo, z.hi⟩ D t1 t2 t3 h' tk' F' N' l1
end
section
variable {prog : Program} {w : World} {A : Around} {E : Value → Shared → Prop} {s : Shared} {h₀ : Heap} {L : Addr} {m : Str → Option Value} {news : List (Addr × Obj)} {Q : Value → Shared → Prop}
theorem isi_tup_str {a : Addr} {xs : Array Value} {n : Nat} {d : Option Addr} {sl : Array (Option Value)} (N : News h₀ L s.heap news) (hm : (a, { cls := .type "tuple", dict := d, data := .seq xs n, slots := sl }) ∈ news) (h : ∀ tk, Q (.bool false) { s with toks := tk }) :
    wpAny (model prog w) A (call (.builtin "isinstance") [.ref a, .type "str"]) Q E s :=
  IsiPair.isTuple_str (h₀ := s.heap) (News.isTup N hm) (fun _ _ e => e) (h _)
theorem isSame_f {x : UInt64} {t u : Tok} {R : Bool → Shared → Prop} (ht : (0 : Nat) < t) (hu : (0 : Nat) < u) (hb : NoneBooked s.heap) (hq : ∀ b, R b s) : wpAny (model prog w) A (isSame (.float x t) (.float x u)) R E s := by
  have h0 : (t == 0 || u == 0) = false := by
    have h1 : (t == 0) = false := beq_eq_false_iff_ne.mpr (Nat.ne_of_gt ht)
    have h2 : (u == 0) = false := beq_eq_false_iff_ne.mpr (Nat.ne_of_gt hu)
    rw [h1, h2]; rfl
  show wpAny _ A (isSame.created (x == x && !Float64.isNaN x) t u) R E s
  unfold isSame.created
  refine wpAny_ite ?_
  split
  · rename_i h; rw [h0] at h; exact absurd h Bool.false_ne_true
  refine wpAny_ite ?_
  split
  · exact wpAny_pure (hq _)
  refine wpAny_ite ?_
  split
  · exact wpAny_pure (hq _)
  refine wpAny_bind (wpAny_sharingNotTold_none hb ?_)
  first | rw [if_neg Bool.false_ne_true] | simp only [Bool.false_eq_true, if_false]
  refine wpAny_bind (wpAny_sharingNotTold_none hb ?_)
  first | rw [if_neg Bool.false_ne_true] | simp only [Bool.false_eq_true, if_false]
  exact wpAny_bind (wpAny_rule (wpAny_bind (wpAny_askSetting (wpAny_pure (hq _)))))
theorem eqf {x : UInt64} {t u : Tok} (hx : (Float64.cmp x x == some .eq) = true) (ht : (0 : Nat) < t) (hu : (0 : Nat) < u) (A : Around) (s : Shared) (hb : NoneBooked s.heap) : SeqAt.EqAt A s (.float x t) (.float x u) true := fun prog w E Q h => by
  unfold eqBool
  refine wpAny_holding ?_
  refine wpAny_ite_split (fun _ => wpAny_bind (wpAny_rule (wpAny_pure h))) (fun _ => ?_)
  refine wpAny_bind (isSame_f ht hu hb fun b => ?_)
  cases b with
  | true => exact wpAny_pure h
  | false =>
    refine wpAny_bind (AutoFloatOps.eq_0 ?_)
    rw [hx]
    exact wpAny_truthy_bool h
theorem tup3_neM (l b : Addr) (a0 a1 a2 b0 b1 b2 : Value) (n n2 : Nat) (dd dd2 : Option Addr) (sl sl2 : Array (Option Value)) :
    Meets (Builtin.«tuple.__ne__» ⟨[.ref l, .ref b], []⟩)
      (fun A R s => s.heap.get? l = some { cls := .type "tuple", dict := dd, data := .seq #[a0, a1, a2] n, slots := sl } ∧ s.heap.get? b = some { cls := .type "tuple", dict := dd2, data := .seq #[b0, b1, b2] n2, slots := sl2 } ∧
        (∀ p ∈ [(a0, b0), (a1, b1), (a2, b2)], SeqAt.EqAt A.in1 s p.1 p.2 true) ∧ R (.ok (.ret (.bool false))) s) :=
  .of_wp fun prog w A R s h => by
    obtain ⟨hp, g, d, tk, os⟩ := s; obtain ⟨hl, hb, he, h⟩ := h
    have f2 := AutoSeq1.sub_tuple_tuple
    wp_walk using wpAny_loadPart' hl, wpAny_loadPart' hb, wpAny_forIn_list _ (fun (rest : List (Value × Value)) b s' => b.1 = none ∧ s' = ⟨hp, g, d, tk, os⟩ ∧ ∀ p ∈ rest, SeqAt.EqAt A.in1 ⟨hp, g, d, tk, os⟩ p.1 p.2 true) _
    case turn =>
      rintro ⟨y, x⟩ rest b s' ⟨hb', rfl, hall⟩
      refine wpAny_bind (hall (y, x) (.head _) prog w _ _ ?_)
      wp_walk
      exact ⟨rfl, rfl, fun p hp => hall p (.tail _ hp)⟩
    case fin =>
      rintro ⟨b1, b2⟩ s' ⟨hb', rfl, -⟩
      simp only at hb'
      subst hb'
      wp_walk
      exact ⟨_, rfl, by simpa [Builtin.Tuple.tupleCompareSizes] using h⟩
    case h =>
      exact ⟨rfl, rfl, he⟩
theorem tup3_ne {l b : Addr} {x0 x1 x2 : UInt64} {t0 t1 t2 u0 u1 u2 : Tok} (N : News h₀ L s.heap news)
    (hl : (l, { cls := .type "tuple", data := .seq #[.float x0 t0, .float x1 t1, .float x2 t2] }) ∈ news) (hb : (b, { cls := .type "tuple", data := .seq #[.float x0 u0, .float x1 u1, .float x2 u2] }) ∈ news)
    (hx : (Float64.cmp x0 x0 == some .eq) = true ∧ (Float64.cmp x1 x1 == some .eq) = true ∧ (Float64.cmp x2 x2 == some .eq) = true) (ht : ((0 : Nat) < t0 ∧ (0 : Nat) < t1 ∧ (0 : Nat) < t2)) (hu : ((0 : Nat) < u0 ∧ (0 : Nat) < u1 ∧ (0 : Nat) < u2))
    (nb : NoneBooked s.heap) (hA : A.units < cLine) (h : Q (.bool false) s) : wpAny (model prog w) A (compareOp .NotEq (.ref l) (.ref b)) Q E s := by
  refine richCompare_meets_room (op := .NotEq) ⟨_, (N _ hl).1, rfl⟩ ⟨_, (N _ hb).1, rfl⟩ F.slot_tuple_ne F.entry_tuple_ne (F.args_tuple_ne_2 _ _) (tup3_neM l b _ _ _ _ _ _ _ _ _ _ _ _)
    ⟨(N _ hl).1, (N _ hb).1, ?_, show Value.bool false ≠ Value.notImplemented ∧ Q (.bool false) s from ⟨(fun x => nomatch x), h⟩⟩ hA
  intro p hp
  rcases List.mem_cons.mp hp with rfl | hp
  · exact eqf hx.1 ht.1 hu.1 _ _ nb
  rcases List.mem_cons.mp hp with rfl | hp
  · exact eqf hx.2.1 ht.2.1 hu.2.1 _ _ nb
  rcases List.mem_cons.mp hp with rfl | hp
  · exact eqf hx.2.2 ht.2.2 hu.2.2 _ _ nb
  cases hp
end
theorem booked0 {w : World} {mean : ExcName → Option Value} {mg mb : Str → Option Value} {h₀ : Heap} (X : (hd.heap_39 w.params).In h₀) (T : Top hd.view_39 LN mean mg mb h₀) : NoneBooked h₀ := by
  obtain ⟨mc, hn, _⟩ := T.nodigits
  exact ⟨mc, hn, ns_none_of X hn (by rfl)⟩
theorem booked {w : World} {mean : ExcName → Option Value} {mg mb : Str → Option Value} {h₀ h : Heap} {L : Addr} {m : Str → Option Value} (X : (hd.heap_39 w.params).In h₀) (T : Top hd.view_39 LN mean mg mb h₀) (F : Fr h₀ L h m) : NoneBooked h := by
  obtain ⟨mc, hn, hk⟩ := booked0 X T
  exact ⟨mc, hn.at fun o e => F.keep _ o e, hk⟩
theorem e_self : ∀ j : Fin 8, (Float64.cmp (eighth (j.val : Int)) (eighth (j.val : Int)) == some .eq) = true := by decide +kernel
theorem half_self : (Float64.cmp 4602678819172646912 4602678819172646912 == some .eq) = true := by decide +kernel
theorem one_self : (Float64.cmp 4607182418800017408 4607182418800017408 == some .eq) = true := by decide +kernel
theorem e_selfI {j : Int} (h0 : 0 ≤ j) (h1 : j < 8) : (Float64.cmp (eighth j) (eighth j) == some .eq) = true := by
  have h := e_self ⟨j.toNat, by omega⟩
  have e : ((j.toNat : Nat) : Int) = j := by omega
  dsimp only at h
  rw [e] at h
  exact h
end Mine
end
section
open PySem PySem.W PyProof PyProof.Rows PySem.Calls
namespace Mine
theorem fin4 {f : Int} (h0 : 0 ≤ f) (h1 : f ≤ 3) : ∃ a : Fin 4, (a.val : Int) = f := ⟨⟨f.toNat, by omega⟩, by show ((f.toNat : Nat) : Int) = f; omega⟩
theorem ring_len : ∀ f : Fin 4, (ringE (f.val : Int)).length = 8 := by decide +kernel
theorem ring_len8 {f : Int} (h0 : 0 ≤ f) (h1 : f ≤ 3) : (ringE f).length = 8 := by
  obtain ⟨a, rfl⟩ := fin4 h0 h1
  exact ring_len a
/-- a list of hues: the eighths of the ints -/
inductive FAre : List Value → List Int → Prop
  | nil : FAre [] []
  | cons (j : Int) (t : Tok) {vs js} : FAre vs js → FAre (.float (eighth j) t :: vs) (j :: js)
theorem FAre.length {vs : List Value} {js : List Int} (h : FAre vs js) : vs.length = js.length := by
  induction h with
  | nil => rfl
  | cons j t _ ih => simp [ih]
theorem FAre.snoc {vs : List Value} {js : List Int} {j : Int} {t : Tok} (h : FAre vs js) : FAre (vs ++ [.float (eighth j) t]) (js ++ [j]) := by
  induction h with
  | nil => exact .cons j t .nil
  | cons i u _ ih => exact .cons i u ih
theorem FAre.get {vs : List Value} {js : List Int} (h : FAre vs js) : ∀ i (hi : i < js.length), ∃ t, vs.getD i Value.none = .float (eighth (js.getD i 0)) t := by
  induction h with
  | nil => intro i hi; cases hi
  | cons j t _ ih =>
    intro i hi
    cases i with
    | zero => exact ⟨t, rfl⟩
    | succ i => exact ih i (by simpa using hi)
structure HOk (vs : List Value) (js : List Int) (n : Nat) : Prop where
  a : FAre vs js
  b : ∀ j ∈ js, 0 ≤ j ∧ j < 8
  l : js.length ≤ n
/-- the number of figures in the ring -/
structure Fig (f : Int) : Prop where
  lo : 0 ≤ f
  hi : f ≤ 3
noncomputable def lawStored : List Str := [Str.ofString "zone", Str.ofString "steps", Str.ofString "paint", Str.ofString "told"]
noncomputable def TurnEnd (h₀ : Heap) (L : Addr) (x : Str) (m₀ : Str → Option Value) (H : Addr) (n : Nat) (rest own : List (Addr × Obj)) (s₁ s₂ : Shared) : Prop :=
  ∃ vs js k h' tk m' news', s₂ = { s₁ with heap := h', toks := tk } ∧ Fr h₀ L h' m' ∧ News h₀ L h' news' ∧ HOk vs js (n + 1) ∧ (∀ p ∈ (H, W.listOf (List.toArray vs) k) :: rest, p ∈ news') ∧ (∀ p ∈ own, p ∈ news') ∧ (∀ z, z ≠ x → lawStored.contains z = false → m' z = m₀ z)
noncomputable def TurnPost (h₀ : Heap) (L : Addr) (x : Str) (m₀ : Str → Option Value) (H : Addr) (n : Nat) (rest own : List (Addr × Obj)) (s₁ : Shared) (Q : Flow → Shared → Prop) (f : Flow) (s₂ : Shared) : Prop :=
  match f with
  | .ret v => Q (.ret v) s₂
  | .brk => Q .next s₂
  | _ => TurnEnd h₀ L x m₀ H n rest own s₁ s₂
section
variable {prog : Program} {w : World} {A : Around} {E : Value → Shared → Prop} {s : Shared} {env : Env} {h₀ : Heap} {x : Str} {body : List Stmt} {Q : Flow → Shared → Prop}
theorem hues_loop {D H C : Addr} {ws : List Value} {ns : List Int} {m₀ : Str → Option Value} {news : List (Addr × Obj)} {oC : Obj} {ring : Str} {tr : Tok} {f : Int}
    (hh : A.handled = none) (hdC : oC.data = .cell (some (.str ring tr))) (hrg : ring = ringE f) (hf0 : 0 ≤ f) (hf1 : f ≤ 3) (hC : (C, oC) ∈ news) (hH : (H, W.listOf #[] 0) ∈ news) (hD : (D, W.listOf ws.toArray 0) ∈ news) (hi : IntsAre ws ns) (hns : ∀ n ∈ ns, 0 ≤ n ∧ n < 1000000) (hlen : ns.length = 3)
    (F : Fr h₀ env.locals s.heap m₀) (N : News h₀ env.locals s.heap news)
    (turn : ∀ vs js k n t (u : Str → Option Value) h tk own nn, 0 ≤ n → n < 1000000 → HOk vs js nn → js.length ≤ 3 → OwnOff own [H, D, C] →
      Fr h₀ env.locals h (fun y => if y = x then some (.int n t) else if lawStored.contains y then u y else m₀ y) → News h₀ env.locals h ((H, W.listOf (List.toArray vs) k) :: (D, W.listOf ws.toArray 0) :: (C, oC) :: own) →
      wpAny (model prog w) A (execs body env) (TurnPost h₀ env.locals x m₀ H nn [(D, W.listOf ws.toArray 0), (C, oC)] own { s with heap := h, toks := tk } Q) E { s with heap := h, toks := tk })
    (done : ∀ vs js k (u : Str → Option Value) h tk, HOk vs js 3 → Fig f → oC.data = .cell (some (.str (ringE f) tr)) → (ringE f).length = 8 → Fr h₀ env.locals h (fun y => if y = x then u y else if lawStored.contains y then u y else m₀ y) → News h₀ env.locals h [(H, W.listOf (List.toArray vs) k), (D, W.listOf ws.toArray 0), (C, oC)] → Q .next { s with heap := h, toks := tk }) :
    wpAny (model prog w) A (pyIter (.ref D)) (fun it s₂ => LoopAtV prog w A h₀ env x body Q E it s₂) E s := by
  refine kst_listL (σ := List Value × List Int × Nat) (fun c => [(H, W.listOf (List.toArray c.1) c.2.2), (D, W.listOf ws.toArray 0), (C, oC)]) (fun _ => []) (fun _ => True) lawStored (fun pre c => HOk c.1 c.2.1 pre.length) ([], [], 0)
    hh (fun _ => .tail _ (.head _)) hi F (kst_newsOf N fun p hp => ?_) trivial (fun _ hp => nomatch hp) ⟨.nil, (fun _ h => nomatch h), Nat.zero_le _⟩ ?_ ?_
  · rcases List.mem_cons.mp hp with rfl | hp
    · exact hH
    rcases List.mem_cons.mp hp with rfl | hp
    · exact hD
    rcases List.mem_cons.mp hp with rfl | hp
    · exact hC
    cases hp
  · rintro ⟨vs, js, k⟩ pre post n t u h tk own he hm hoff _ hP F₁ N₁
    have hb := hns n hm
    have hle : pre.length < 3 := by
      rw [← hlen, he]; simp
    refine wpAny_mono (turn vs js k n t u h tk own pre.length hb.1 hb.2 hP (Nat.le_of_lt (Nat.lt_of_le_of_lt hP.l hle)) hoff F₁ (by simpa using N₁)) (fun f s₂ p => ?_) fun _ _ e => e
    have fin : TurnEnd h₀ env.locals x m₀ H pre.length [(D, W.listOf ws.toArray 0), (C, oC)] own { s with heap := h, toks := tk } s₂ →
        InvEndN h₀ env.locals (KstS (σ := List Value × List Int × Nat) (fun c => [(H, W.listOf (List.toArray c.1) c.2.2), (D, W.listOf ws.toArray 0), (C, oC)]) (fun _ => []) (fun _ => True) x lawStored m₀ (fun pre c => HOk c.1 c.2.1 pre.length) (pre ++ [n])) own [H, D, C] { s with heap := h, toks := tk } s₂ := by
      rintro ⟨vs', js', k', h', tk', m', news', e, F', N', ho, hr, hw, hk⟩
      subst e
      refine kst_end (σ := List Value × List Int × Nat) (vs', js', k') F' N' hr hw rfl trivial (fun _ hp => nomatch hp) (fun z h1 _ h2 => hk z h1 h2) ?_
      rw [List.length_append]
      exact ho
    cases f with
    | ret v => exact p
    | brk => exact p
    | next => exact fin p
    | cont => exact fin p
  · rintro ⟨vs, js, k⟩ u h tk _ hP F₁ N₁
    exact done vs js k u h tk ⟨hP.a, hP.b, hlen ▸ hP.l⟩ ⟨hf0, hf1⟩ (hrg ▸ hdC) (ring_len8 hf0 hf1) F₁ N₁
end
theorem fm8 (st : Int) : 0 ≤ st.fmod 8 ∧ st.fmod 8 < 8 := by
  rw [Int.fmod_eq_emod_of_nonneg _ (by decide)]; omega
theorem drawn_ok (l : List Int) : (∀ n ∈ List.map (fun k' => k'.fmod (10 ^ Int.toNat 6)) (List.take 3 l) ++ List.drop (((List.take 3 l).length : Int)).toNat [14, 20, 41], (0 : Int) ≤ n ∧ n < 1000000) ∧
    (List.map (fun k' => k'.fmod (10 ^ Int.toNat 6)) (List.take 3 l) ++ List.drop (((List.take 3 l).length : Int)).toNat [(14 : Int), 20, 41]).length = 3 := by
  constructor
  · intro n hn
    rcases List.mem_append.mp hn with h | h
    · obtain ⟨a, _, rfl⟩ := List.mem_map.mp h
      have e : ((10 : Int) ^ Int.toNat 6) = 1000000 := by decide
      rw [e, Int.fmod_eq_emod_of_nonneg _ (by decide)]
      omega
    · have := List.mem_of_mem_drop h
      simp only [List.mem_cons, List.not_mem_nil, or_false] at this
      omega
  · simp only [List.length_append, List.length_map, List.length_drop, List.length_cons, List.length_nil, List.length_take]
    omega
end Mine
end
section
open PySem PySem.W PyProof PyProof.Rows PySem.Calls
namespace Mine
section
variable {prog : Program} {w : World} {A : Around} {E : Value → Shared → Prop} {s : Shared} {h₀ : Heap} {L : Addr} {m : Str → Option Value} {news news' : List (Addr × Obj)} {Q : Value → Shared → Prop}
theorem div_eight {j : Int} {t u : Tok} (hA : A.handled = none) (h0 : 0 ≤ j) (h1 : j < 8) (h : Q (.float (eighth j) s.toks) { s with toks := s.toks + 1 }) :
    wpAny (model prog w) A (binaryOp .Div (.int j t) (.int 8 u)) Q E s :=
  Flt.div_ii_fits hA (by have : (2 : Nat) ^ 4 ≤ 2 ^ 1023 := Nat.pow_le_pow_right (by decide) (by decide); omega) (fun e => absurd e (by decide)) fun _ _ => h
theorem append_H {vs : List Value} {js : List Int} {nn k : Nat} {H : Addr} {x : Value} (F : Fr h₀ L s.heap m) (N : News h₀ L s.heap news) (U : Upd H (W.listOf (List.toArray vs) k) (W.listOf (List.toArray (vs ++ [x])) (k + 1)) news news')
    (hok : HOk vs js nn) (h3 : js.length ≤ 3) (h : ∀ h', Fr h₀ L h' m → News h₀ L h' news' → Q .none { s with heap := h' }) : wpAny (model prog w) A (call (.builtin "list.append") [.ref H, x]) Q E s := by
  have e : List.toArray (vs ++ [x]) = (List.toArray vs).push x := by simp
  rw [e] at U
  exact append_K F N U h (by rw [List.size_toArray, hok.a.length, sizeLine_eq]; omega)
theorem HOk.snoc {vs : List Value} {js : List Int} {nn : Nat} {st : Int} {t : Tok} (h : HOk vs js nn) : HOk (vs ++ [.float (eighth (st.fmod 8)) t]) (js ++ [st.fmod 8]) (nn + 1) := by
  refine ⟨h.a.snoc, ?_, by rw [List.length_append]; exact Nat.succ_le_succ h.l⟩
  intro j hj
  rcases List.mem_append.mp hj with hj | hj
  · exact h.b j hj
  · rw [List.mem_singleton.mp hj]; exact fm8 st
theorem HOk.up {vs : List Value} {js : List Int} {nn : Nat} (h : HOk vs js nn) : HOk vs js (nn + 1) := ⟨h.a, h.b, Nat.le_succ_of_le h.l⟩
theorem turn_end {x : Str} {m₀ m' : Str → Option Value} {H : Addr} {n : Nat} {rest own news' : List (Addr × Obj)} {s₁ : Shared} {vs : List Value} {js : List Int} {k : Nat} {h' : Heap} {tk : Nat}
    (F : Fr h₀ L h' m') (N : News h₀ L h' news') (ho : HOk vs js (n + 1)) (hr : ∀ p ∈ (H, W.listOf (List.toArray vs) k) :: rest, p ∈ news') (hw : ∀ p ∈ own, p ∈ news') (hm : ∀ z, z ≠ x → lawStored.contains z = false → m' z = m₀ z) :
    TurnEnd h₀ L x m₀ H n rest own s₁ { s₁ with heap := h', toks := tk } := ⟨vs, js, k, h', tk, m', news', rfl, F, N, ho, hr, hw, hm⟩
theorem not_st {z : Str} (h : lawStored.contains z = false) : z ≠ Str.ofString "zone" ∧ z ≠ Str.ofString "steps" ∧ z ≠ Str.ofString "paint" ∧ z ≠ Str.ofString "told" := by
  refine ⟨?_, ?_, ?_, ?_⟩ <;> (rintro rfl; exact absurd h (by decide +kernel))
end
end Mine
end
section
open PySem PySem.W PyProof PyProof.Rows PySem.Calls
namespace Mine
noncomputable def runB {α : Type} (lt : Nat → Nat → Bool) : KasT α → α
  | .ret a => a
  | .ask i j k => runB lt (k (lt i j))
noncomputable def runOk {α : Type} (n : Nat) (lt : Nat → Nat → Bool) : KasT α → Bool
  | .ret _ => true
  | .ask i j k => decide (i < n) && decide (j < n) && runOk n lt (k (lt i j))
theorem run_wp {α : Type} {cmp : Nat → Nat → (Bool → Shared → Prop) → Shared → Prop} {n : Nat} {lt : Nat → Nat → Bool} (hask : ∀ i j C s, i < n → j < n → C (lt i j) s → cmp i j C s) {Q : α → Shared → Prop} : ∀ (t : KasT α) (s : Shared), runOk n lt t = true → Q (runB lt t) s → t.kasWp cmp Q s
  | .ret _, _, _, h => h
  | .ask i j k, s, hk, h => by
    simp only [runOk, Bool.and_eq_true, decide_eq_true_eq] at hk
    exact hask i j _ s hk.1.1 hk.1.2 (run_wp hask (k (lt i j)) s hk.2 h)
noncomputable def ltOf (js : List Int) (i j : Nat) : Bool := decide (js.getD i 0 < js.getD j 0)
noncomputable def sortOk (js : List Int) : Bool := let n := js.length
  runOk n (ltOf js) (kas_sort n) && (let p := (runB (ltOf js) (kas_sort n)).toList
    decide (p.length = n) && p.all (fun i => decide (i < n)) && lks_asc (p.map fun i => js.getD i 0))
theorem sort_2 : ∀ a b : Fin 8, sortOk [(a.val : Int), (b.val : Int)] = true := by decide +kernel
theorem sort_3 : ∀ a b c : Fin 8, sortOk [(a.val : Int), (b.val : Int), (c.val : Int)] = true := by decide +kernel
theorem fin8 {j : Int} (h : 0 ≤ j ∧ j < 8) : ∃ a : Fin 8, (a.val : Int) = j := ⟨⟨j.toNat, by omega⟩, by show ((j.toNat : Nat) : Int) = j; omega⟩
theorem sort_ok {js : List Int} (hb : ∀ j ∈ js, 0 ≤ j ∧ j < 8) (h2 : 2 ≤ js.length) (h3 : js.length ≤ 3) : sortOk js = true := by
  match js, h2, h3 with
  | [a, b], _, _ =>
    obtain ⟨x, rfl⟩ := fin8 (hb a (.head _))
    obtain ⟨y, rfl⟩ := fin8 (hb b (.tail _ (.head _)))
    exact sort_2 x y
  | [a, b, c], _, _ =>
    obtain ⟨x, rfl⟩ := fin8 (hb a (.head _))
    obtain ⟨y, rfl⟩ := fin8 (hb b (.tail _ (.head _)))
    obtain ⟨z, rfl⟩ := fin8 (hb c (.tail _ (.tail _ (.head _))))
    exact sort_3 x y z
theorem elt {a b : Int} (ha : 0 ≤ a ∧ a < 8) (hb : 0 ≤ b ∧ b < 8) : fLt (eighth a) (eighth b) = decide (a < b) := by
  obtain ⟨x, rfl⟩ := fin8 ha
  obtain ⟨y, rfl⟩ := fin8 hb
  rw [e_lt x y]
  simp only [Int.ofNat_lt]
section
variable {prog : Program} {w : World} {A : Around} {E : Value → Shared → Prop} {s : Shared}
theorem lt_f {x y : UInt64} {t u : Tok} {Q : Bool → Shared → Prop} (h : Q (fLt x y) s) : wpAny (model prog w) A (keyLt' oneType' (.float x t) (.float y u)) Q E s := by
  rw [keyLt'_oneType, oneLt'_eq]
  simp only [if_true]
  refine wpAny_bind (wpAny_cRoomFor_byValue rfl ?_)
  refine wpAny_bind (wpAny_callSpecialIfBound?_slot (AutoFloatOps.typeIs_float s x t) F.slot_float_lt (call_meets F.slot_float_lt (AutoFloatOps.typeIs_float s x t) F.entry_float_lt (F.args_float_lt_2 _ _) (AutoFloatG5.float___lt___float_float_0 x t y u).meets ?_))
  exact wpAny_truthy_bool h
variable {h₀ : Heap} {L : Addr} {m : Str → Option Value} {news : List (Addr × Obj)} {vs : List Value} {js : List Int}
theorem FAre.float (h : FAre vs js) : ∀ v ∈ vs, ∃ x t, v = .float x t := by
  induction h with
  | nil => intro v hv; cases hv
  | cons j t _ ih =>
    intro v hv
    rcases List.mem_cons.mp hv with rfl | hv
    · exact ⟨_, _, rfl⟩
    · exact ih v hv
theorem FAre.perm {p : List Nat} (h : FAre vs js) (hp : p.all (fun i => decide (i < js.length)) = true) : FAre (p.map fun i => vs.getD i Value.none) (p.map fun i => js.getD i 0) := by
  induction p with
  | nil => exact .nil
  | cons i r ih =>
    simp only [List.all_cons, Bool.and_eq_true, decide_eq_true_eq] at hp
    obtain ⟨t, e⟩ := h.get i hp.1
    rw [List.map_cons, List.map_cons, e]
    exact .cons _ t (ih hp.2)
theorem getD_mem {i : Nat} (h : i < js.length) : js.getD i 0 ∈ js := by
  rw [List.getD_eq_getElem?_getD, List.getElem?_eq_getElem h]
  exact List.getElem_mem h
theorem sorted_two {l : Addr} {Q : Value → Shared → Prop} (F : Fr h₀ L s.heap m) (N : News h₀ L s.heap news) (hl : s.heap.IsList l vs.toArray) (ok : HOk vs js 3) (h2 : 2 ≤ js.length)
    (h : ∀ D vs' js' c h', Fr h₀ L h' m → News h₀ L h' ((D, W.listOf (List.toArray vs') c) :: news) → (∀ p ∈ news, p.1 < D) → HOk vs' js' 3 → lks_asc js' = true → Q (.ref D) { s with heap := h' }) :
    wpAny (model prog w) A (call (.builtin "sorted") [.ref l]) Q E s := by
  have hlen := ok.a.length
  have hs := sort_ok ok.b h2 ok.l
  unfold sortOk at hs
  simp only [Bool.and_eq_true, decide_eq_true_eq] at hs
  obtain ⟨hr, ⟨hpl, hpa⟩, hasc⟩ := hs
  refine kas_sorted (T := .type "float") F N hl (by omega) (by have := ok.l; omega) (fun h' _ _ v hv => ?_) rfl fun D e1 h' F' N' l1 => ?_
  · have := ok.a.float v hv
    obtain ⟨x, t, rfl⟩ := this
    exact Looks.of_pure rfl
  · rw [hlen]
    refine run_wp (n := js.length) (lt := ltOf js) (fun i j C s' hi hj hC => ?_) _ _ hr ?_
    · obtain ⟨t, e1⟩ := ok.a.get i hi
      obtain ⟨u, e2⟩ := ok.a.get j hj
      unfold kas_ask
      rw [e1, e2]
      refine lt_f ?_
      rw [elt (ok.b _ (getD_mem hi)) (ok.b _ (getD_mem hj))]
      exact hC
    · refine KasFin.intro F' N' (.head fun p hp => Nat.ne_of_lt (l1 p hp)) fun h'' c F'' N'' => ?_
      refine h D _ _ c h'' F'' N'' l1 ⟨ok.a.perm hpa, ?_, ?_⟩ hasc
      · intro j hj
        obtain ⟨i, hi, rfl⟩ := List.mem_map.mp hj
        have := List.all_eq_true.mp hpa i hi
        exact ok.b _ (getD_mem (by simpa using this))
      · rw [List.length_map, hpl]; exact ok.l
theorem list_sort_small {a : Addr} {n : Nat} {P : PySem.Fin → Shared → Prop} (ho : s.heap.get? a = some (seqObj "list" vs.toArray n)) (h2 : vs.length < 2)
    (h : P (.done (.ret .none)) { s with heap := sortedHeap s.heap a vs vs.toArray }) : wpAny (model prog w) A (Builtin.«list.sort» ⟨[.ref a], []⟩) P E s := by
  rw [list_sort_plain]
  have ha : a < s.heap.objs.size := Heap.lt_size ho
  refine wpAny_bind (listItems_at ho rfl ?_)
  refine wpAny_bind (listUpdate_at ho rfl ?_ (by rw [sizeLine_eq]; simp; omega) (by rw [sizeLine_eq]; simp))
  obtain ⟨e1, ho1⟩ : ∃ e1, (s.heap.update a (Obj.mapSeq fun _ => #[])).get? a = some (seqObj "list" #[] e1) := ⟨_, get?_update_seq ho (fun _ => #[])⟩
  refine wpAny_bind (seqEpoch_at ho1 rfl ?_)
  refine wpAny_bind (wpAny_newTuple ?_ (by rw [sizeLine_eq]; simp; omega))
  refine wpAny_bind (wpAny_newList ?_)
  refine wpAny_holding ?_
  have ho6 : (((s.heap.update a (Obj.mapSeq fun _ => #[])).push (seqObj "tuple" vs.toArray 0)).push (seqObj "list" #[] 0)).get? a = some (seqObj "list" #[] e1) := by
    rw [Heap.get?_push_ne _ _ _ (by rw [size_push', Heap.size_update]; exact Nat.ne_of_lt (Nat.lt_succ_of_lt ha)), Heap.get?_push_ne _ _ _ (by rw [Heap.size_update]; exact Nat.ne_of_lt ha)]
    exact ho1
  show wpAny (model prog w) A _ P E { s with heap := ((s.heap.update a (Obj.mapSeq fun _ => #[])).push (seqObj "tuple" vs.toArray 0)).push (seqObj "list" #[] 0) }
  dsimp only
  have hsz : vs.toArray.size < 2 := by simpa using h2
  have harr : (arrOf (SortSt.mk' general' (vs.toArray.zip vs.toArray) #[] 7 none)).map (·.2) = vs.toArray := by
    show (vs.toArray.zip vs.toArray).map (·.2) = vs.toArray
    match vs, h2 with
    | [], _ => simp
    | [_], _ => simp
  rw [if_pos hsz, if_pos hsz]
  refine wpAny_bind (wpAny_pure ?_)
  rw [StateT.run_pure]
  refine wpAny_bind (wpAny_pure ?_)
  dsimp only
  rw [harr]
  refine wpAny_bind (seqEpoch_at ho6 rfl ?_)
  refine wpAny_bind (listUpdate_at ho6 rfl ?_ (Nat.zero_le _) (by rw [sizeLine_eq]; omega))
  simp only [bne_self_eq_false, Bool.false_eq_true, if_false]
  exact wpAny_pure h
theorem sorted_small {l : Addr} {Q : Value → Shared → Prop} (F : Fr h₀ L s.heap m) (N : News h₀ L s.heap news) (hl : s.heap.IsList l vs.toArray) (h2 : vs.length < 2)
    (h : ∀ D c h', Fr h₀ L h' m → News h₀ L h' ((D, W.listOf (List.toArray vs) c) :: news) → (∀ p ∈ news, p.1 < D) → Q (.ref D) { s with heap := h' }) :
    wpAny (model prog w) A (call (.builtin "sorted") [.ref l]) Q E s := by
  refine Calls.call_function_entry kind_sorted plain_sorted entry_sorted (args_sorted1 _) ?_
  unfold Builtin.«sorted»
  refine wpAny_bind (m := checkCount "sorted" 1 1 _) (wpAny_pure ?_)
  refine wpAny_bind (collect_list hl ?_ (by rw [sizeLine_eq]; omega))
  refine wpAny_bind (wpAny_newList ?_ (by rw [sizeLine_eq]; omega))
  have hsz : ((s.heap.push (seqObj "list" #[] 0)).update s.heap.objs.size (Obj.mapSeq (· ++ vs.toArray))).objs.size = s.heap.objs.size + 1 := by
    rw [Heap.size_update, size_push']
  have hoL : (((s.heap.push (seqObj "list" #[] 0)).update s.heap.objs.size (Obj.mapSeq (· ++ vs.toArray))).push (seqObj "list" vs.toArray 0)).get? (s.heap.objs.size + 1) = some (seqObj "list" vs.toArray 0) := by
    rw [← hsz]; exact Heap.get?_push_size _ rfl
  show wpAny _ _ _ _ _ { s with heap := ((s.heap.push (seqObj "list" #[] 0)).update s.heap.objs.size (Obj.mapSeq (· ++ vs.toArray))).push (seqObj "list" vs.toArray 0) }
  rw [hsz]
  refine wpAny_bind (wpAny_holding (wpAny_call_entry slot_list_sort ⟨_, hoL, rfl⟩ entry_list_sort (list_sort_small hoL h2 ⟨_, rfl, ?_⟩) (args_list_sort _)))
  refine wpAny_pure ⟨_, rfl, ?_⟩
  obtain ⟨e, he⟩ := sortedAll_at s.heap vs vs.toArray
  exact h _ e _ (F.kept fun _ _ => sortedAll_old) (N.kept_cons F (fun _ _ => sortedAll_old) (Nat.le_succ _) he) fun p hp => Nat.lt_succ_of_lt (Heap.lt_size (N p hp).1)
theorem sorted_hues {l : Addr} {Q : Value → Shared → Prop} (F : Fr h₀ L s.heap m) (N : News h₀ L s.heap news) (hl : s.heap.IsList l vs.toArray) (ok : HOk vs js 3)
    (h : ∀ D vs' js' c h', Fr h₀ L h' m → News h₀ L h' ((D, W.listOf (List.toArray vs') c) :: news) → (∀ p ∈ news, p.1 < D) → HOk vs' js' 3 → lks_asc js' = true → Q (.ref D) { s with heap := h' }) :
    wpAny (model prog w) A (call (.builtin "sorted") [.ref l]) Q E s := by
  by_cases h2 : 2 ≤ js.length
  · exact sorted_two F N hl ok h2 h
  · refine sorted_small F N hl (by rw [ok.a.length]; omega) fun D c h' F' N' l1 => h D vs js c h' F' N' l1 ok ?_
    match js, h2 with
    | [], _ => rfl
    | [_], _ => rfl
    | _ :: _ :: _, h2 => exact absurd (by simp) h2
end
end Mine
end
section
open PySem PySem.W PyProof PyProof.Rows PySem.Calls
namespace Mine
/-- a list of texts, each made of an int -/
inductive TAre (g : Int → Str) : List Value → List Int → Prop
  | nil : TAre g [] []
  | cons (j : Int) (t : Tok) {vs js} : TAre g vs js → TAre g (.str (g j) t :: vs) (j :: js)
theorem TAre.of_carried {g : Int → Str} : ∀ {vs : List Value} {js : List Int}, CarriedAll vs (js.map fun k => PyData.str (g k)) → TAre g vs js
  | [], [], _ => .nil
  | _ :: _, [], h => nomatch h
  | [], _ :: _, h => nomatch h
  | v :: vs, j :: js, h => by
    cases h with
    | cons h1 h2 =>
      cases h1 with
      | str _ t => exact .cons j t (TAre.of_carried h2)
theorem TAre.get {g : Int → Str} {vs : List Value} {js : List Int} (h : TAre g vs js) : ∀ i : Nat, i < js.length → ∃ t, vs[i]? = some (.str (g (js.getD i 0)) t) := by
  induction h with
  | nil => intro i hi; cases hi
  | cons j t _ ih =>
    intro i hi
    cases i with
    | zero => exact ⟨t, rfl⟩
    | succ i => exact ih i (by simpa using hi)
theorem ints_get {vs : List Value} {js : List Int} (h : IntsAre vs js) {i : Nat} (hi : i < js.length) : ∃ t, vs[i]? = some (.int (js.getD i 0) t) := by
  refine h.get i _ ?_
  rw [List.getD_eq_getElem?_getD, List.getElem?_eq_getElem hi]; rfl
section
variable {prog : Program} {w : World} {A : Around} {E : Value → Shared → Prop} {s : Shared} {h₀ : Heap} {L : Addr} {m : Str → Option Value} {news : List (Addr × Obj)}
theorem item_any {value slice : Expr} {l : Addr} {vs : List Value} {k : Int} {u : Tok} {v : Value} {Q : Value → Shared → Prop}
    (hl : s.heap.IsList l vs.toArray) (h0 : 0 ≤ k) (hhi : k < 2 ^ 63) (hx : vs[k.toNat]? = some v) (h : Q v s)
    (hs : subscripted slice false (.ref l) (.int k u) = operate [.ref l, .int k u] (getItem (.ref l) (.int k u)) := by with_unfolding_all rfl) :
    wpAny (model prog w) A (subscriptTail value slice (.ref l) (.int k u)) Q E s :=
  tail_any hl.typeIs slot_list_getitem.lookup (wpAny_getItem_list hl h0 hhi (by simpa using hx) h) hs
theorem item_I {value slice : Expr} {l : Addr} {vs : List Value} {js : List Int} {k p : Int} {u : Tok} {Q : Value → Shared → Prop}
    (hi : IntsAre vs js) (hl : s.heap.IsList l vs.toArray) (h0 : 0 ≤ k) (h1 : k < js.length) (h3 : js.length ≤ 3) (e : js.getD k.toNat 0 = p) (h : ∀ t, Q (.int p t) s)
    (hs : subscripted slice false (.ref l) (.int k u) = operate [.ref l, .int k u] (getItem (.ref l) (.int k u)) := by with_unfolding_all rfl) :
    wpAny (model prog w) A (subscriptTail value slice (.ref l) (.int k u)) Q E s := by
  obtain ⟨t, hx⟩ := ints_get hi (i := k.toNat) (by omega)
  rw [e] at hx
  exact item_any hl h0 (by have : (2 : Int) ^ 63 = 9223372036854775808 := by decide
                           omega) hx (h t) hs
theorem item_T {value slice : Expr} {l : Addr} {g : Int → Str} {vs : List Value} {js : List Int} {k p : Int} {u : Tok} {Q : Value → Shared → Prop}
    (hi : TAre g vs js) (hl : s.heap.IsList l vs.toArray) (h0 : 0 ≤ k) (h1 : k < js.length) (h3 : js.length ≤ 3) (e : js.getD k.toNat 0 = p) (h : ∀ t, Q (.str (g p) t) s)
    (hs : subscripted slice false (.ref l) (.int k u) = operate [.ref l, .int k u] (getItem (.ref l) (.int k u)) := by with_unfolding_all rfl) :
    wpAny (model prog w) A (subscriptTail value slice (.ref l) (.int k u)) Q E s := by
  obtain ⟨t, hx⟩ := hi.get k.toNat (by omega)
  rw [e] at hx
  exact item_any hl h0 (by have : (2 : Int) ^ 63 = 9223372036854775808 := by decide
                           omega) hx (h t) hs
end
section
variable {prog : Program} {w : World} {A : Around} {h₀ : Heap} {L : Addr} {m : Str → Option Value} {env : Env} {elt : Expr} {x : Str} {scope : Scope} {cl : List (Str × Addr)} {s : Shared} {S : List (Addr × Obj) → Prop} {Fin : List Value → List (Addr × Obj) → Prop} {news : List (Addr × Obj)}
/-- the comprehension over the hues: each gives its int -/
theorem comp_F {vs : List Value} {js : List Int} (ok : HOk vs js 3)
    (turn : ∀ j t I oI C oC D m₂ ys h tk (E' : Value → Shared → Prop), 0 ≤ j → j < 8 → LCg.NsObj oC m₂ → m₂ x = some (.float (eighth j) t) → Fr h₀ L h m → News h₀ L h ((I, oI) :: (C, oC) :: (D, LCg.lst ys) :: news) → LCg.Off3 I C D news → ((@Ne Nat I C) ∧ (@Ne Nat I D) ∧ (@Ne Nat C D)) →
      wpAny (model prog w) A (eval elt (compEnvC scope cl C env)) (LCg.CompEnd h₀ L m { s with heap := h, toks := tk } I oI C oC D (LCg.lst ys) S (fun y news' => KCfEl news j y news')) E' { s with heap := h, toks := tk })
    (fin : ∀ ys, IntsAre ys js → Fin ys news) : LCg.CompRest prog w A h₀ L m env elt x scope cl s S (fun i v => vs.toArray[i]? = some v) Fin vs.toArray.size 0 [] news := by
  have key : ∀ (j i : Nat) (ys : List Value), i + j = js.length → IntsAre ys (js.take i) → LCg.CompRest prog w A h₀ L m env elt x scope cl s S (fun i v => vs.toArray[i]? = some v) Fin j i ys news := by
    intro j
    induction j with
    | zero =>
      intro i ys hi hy
      have e : i = js.length := by omega
      subst e
      rw [List.take_length] at hy
      exact LCg.CompRest.zero (fin ys hy)
    | succ j ih =>
      intro i ys hi hy
      refine LCg.CompRest.succ ?_
      intro v I oI C oC D m₂ h tk E' hv hC hx F N off ne
      have hlt : i < js.length := by omega
      obtain ⟨t, e⟩ := ok.a.get i hlt
      have hv' : v = .float (eighth (js.getD i 0)) t := by
        rw [← e]
        have hv2 : vs[i]? = some v := by simpa using hv
        rw [List.getD_eq_getElem?_getD, hv2]; rfl
      rw [hv'] at hx
      have hb := ok.b _ (getD_mem hlt)
      refine wpAny_mono (turn (js.getD i 0) t I oI C oC D m₂ ys h tk E' hb.1 hb.2 hC hx F N off ne) (fun y s₂ hq => ?_) fun _ _ e => e
      obtain ⟨h', tk', nw, e, F', N', off', hS, hn, t', hy'⟩ := hq
      rw [hn] at N' off' hS
      refine ⟨h', tk', news, e, F', N', off', hS, ?_⟩
      rw [hy']
      refine ih (i + 1) _ (by omega) ?_
      have hk : js[i]? = some (js.getD i 0) := by rw [List.getD_eq_getElem?_getD, List.getElem?_eq_getElem hlt]; rfl
      rw [List.take_add_one, hk]
      simpa using IntsAre.append hy (.cons (js.getD i 0) t' .nil)
  have hsz : vs.toArray.size = js.length := by rw [List.size_toArray]; exact ok.a.length
  rw [hsz]
  exact key js.length 0 [] (by omega) (by simp only [List.take_zero]; exact .nil)
/-- the comprehension over the places: each gives a text -/
theorem comp_T {vs : List Value} {js : List Int} (g : Int → Str) (hi : IntsAre vs js) (hb : ∀ j ∈ js, 0 ≤ j ∧ j < 8)
    (turn : ∀ j t I oI C oC D m₂ ys h tk (E' : Value → Shared → Prop), 0 ≤ j → j < 8 → LCg.NsObj oC m₂ → m₂ x = some (.int j t) → Fr h₀ L h m → News h₀ L h ((I, oI) :: (C, oC) :: (D, LCg.lst ys) :: news) → LCg.Off3 I C D news → ((@Ne Nat I C) ∧ (@Ne Nat I D) ∧ (@Ne Nat C D)) →
      wpAny (model prog w) A (eval elt (compEnvC scope cl C env)) (LCg.CompEnd h₀ L m { s with heap := h, toks := tk } I oI C oC D (LCg.lst ys) S (fun y news' => KCtEl news (g j) y news')) E' { s with heap := h, toks := tk })
    (fin : ∀ ys, TAre g ys js → Fin ys news) : LCg.CompRest prog w A h₀ L m env elt x scope cl s S (fun i v => vs.toArray[i]? = some v) Fin vs.toArray.size 0 [] news :=
  kct_list g hi (fun k t I oI C oC D m₂ ys h tk E' hk hC hx F N off ne _ => turn k t I oI C oC D m₂ ys h tk E' (hb k hk).1 (hb k hk).2 hC hx F N off ne) (fun ys hc _ => fin ys (TAre.of_carried hc))
end
noncomputable def lawStored2 : List Str := [Str.ofString "place", Str.ofString "bare", Str.ofString "way"]
noncomputable def TurnEnd2 (h₀ : Heap) (L : Addr) (x : Str) (m₀ : Str → Option Value) (rest own : List (Addr × Obj)) (s₁ s₂ : Shared) : Prop :=
  ∃ h' tk m' news', s₂ = { s₁ with heap := h', toks := tk } ∧ Fr h₀ L h' m' ∧ News h₀ L h' news' ∧ (∀ p ∈ rest, p ∈ news') ∧ (∀ p ∈ own, p ∈ news') ∧ (∀ z, z ≠ x → lawStored2.contains z = false → m' z = m₀ z)
noncomputable def TurnPost2 (h₀ : Heap) (L : Addr) (x : Str) (m₀ : Str → Option Value) (rest own : List (Addr × Obj)) (s₁ : Shared) (Q : Flow → Shared → Prop) (f : Flow) (s₂ : Shared) : Prop :=
  match f with
  | .ret v => Q (.ret v) s₂
  | .brk => Q .next s₂
  | _ => TurnEnd2 h₀ L x m₀ rest own s₁ s₂
theorem turn_end2 {h₀ : Heap} {L : Addr} {x : Str} {m₀ m' : Str → Option Value} {rest own news' : List (Addr × Obj)} {s₁ : Shared} {h' : Heap} {tk : Nat}
    (F : Fr h₀ L h' m') (N : News h₀ L h' news') (hr : ∀ p ∈ rest, p ∈ news') (hw : ∀ p ∈ own, p ∈ news') (hm : ∀ z, z ≠ x → lawStored2.contains z = false → m' z = m₀ z) :
    TurnEnd2 h₀ L x m₀ rest own s₁ { s₁ with heap := h', toks := tk } := ⟨h', tk, m', news', rfl, F, N, hr, hw, hm⟩
theorem small62 {n : Nat} (h : n ≤ 3) : (n : Int) < 2 ^ 62 := by
  have : (2 : Int) ^ 62 = 4611686018427387904 := by decide
  omega
theorem asc_le : ∀ {js : List Int} {i j : Nat}, lks_asc js = true → i ≤ j → j < js.length → js.getD i 0 ≤ js.getD j 0 := by
  intro js
  induction js with
  | nil => intro i j _ _ h; cases h
  | cons a r ih =>
    intro i j h hij hj
    simp only [lks_asc, Bool.and_eq_true, List.all_eq_true, decide_eq_true_eq] at h
    cases i with
    | zero =>
      cases j with
      | zero => exact Int.le_refl _
      | succ j => exact h.1 _ (getD_mem (by simpa using hj))
    | succ i =>
      cases j with
      | zero => omega
      | succ j => exact ih h.2 (Nat.le_of_succ_le_succ hij) (by simpa using hj)
section
variable {prog : Program} {w : World} {A : Around} {E : Value → Shared → Prop} {s : Shared} {env : Env} {h₀ : Heap} {x : Str} {body : List Stmt} {Q : Flow → Shared → Prop}
theorem texts_loop {R D G C : Addr} {vs ts : List Value} {js : List Int} {g : Int → Str} {kd kg : Nat} {m₀ : Str → Option Value} {news : List (Addr × Obj)} {oC : Obj} {b : Int} {t₀ u₀ v₀ : Tok} {ring : Str} {tr : Tok}
    (hh : A.handled = none) (hdC : oC.data = .cell (some (.str ring tr))) (hi : IntsAre vs js) (hT : TAre g ts js) (hb : ∀ j ∈ js, 0 ≤ j ∧ j < 8) (hA : lks_asc js = true) (h3 : js.length ≤ 3) (hr : IsRange s.heap R 0 b 1 t₀ u₀ v₀) (hbn : b = (js.length : Int))
    (hC : (C, oC) ∈ news) (hD : (D, ({ cls := .type "list", data := .seq vs.toArray kd } : Obj)) ∈ news) (hG : (G, ({ cls := .type "list", data := .seq ts.toArray kg } : Obj)) ∈ news)
    (F : Fr h₀ env.locals s.heap m₀) (N : News h₀ env.locals s.heap news)
    (turn : ∀ (k p q : Int) t (u : Str → Option Value) h tk own, 0 ≤ k → k < (js.length : Int) → js.getD k.toNat 0 = p → js.getD (k - 1).toNat 0 = q → 0 ≤ q → q ≤ p → p < 8 → OwnOff own [D, G, C] →
      Fr h₀ env.locals h (fun y => if y = x then some (.int k t) else if lawStored2.contains y then u y else m₀ y) → News h₀ env.locals h ((D, { cls := .type "list", data := .seq vs.toArray kd }) :: (G, { cls := .type "list", data := .seq ts.toArray kg }) :: (C, oC) :: own) →
      wpAny (model prog w) A (execs body env) (TurnPost2 h₀ env.locals x m₀ [(D, { cls := .type "list", data := .seq vs.toArray kd }), (G, { cls := .type "list", data := .seq ts.toArray kg }), (C, oC)] own { s with heap := h, toks := tk } Q) E { s with heap := h, toks := tk })
    (done : ∀ (u : Str → Option Value) h tk, Fr h₀ env.locals h (fun y => if y = x then u y else if lawStored2.contains y then u y else m₀ y) → News h₀ env.locals h [(D, { cls := .type "list", data := .seq vs.toArray kd }), (G, { cls := .type "list", data := .seq ts.toArray kg }), (C, oC)] → Q .next { s with heap := h, toks := tk }) :
    wpAny (model prog w) A (pyIter (.ref R)) (fun it s₂ => LoopAtV prog w A h₀ env x body Q E it s₂) E s := by
  subst hbn
  refine kst_range (σ := Unit) (n := js.length) (fun _ => [(D, { cls := .type "list", data := .seq vs.toArray kd }), (G, { cls := .type "list", data := .seq ts.toArray kg }), (C, oC)]) (fun _ => []) (fun _ => True) lawStored2 (fun _ _ => True) ()
    hh hr (small_one (by decide) (by decide) (by omega) (small62 h3)) ?_ F (kst_newsOf N fun p hp => ?_) trivial (fun _ hp => nomatch hp) trivial ?_ ?_
  · exact (rangeSize_nat _ _).trans (by simp)
  · rcases List.mem_cons.mp hp with rfl | hp
    · exact hD
    rcases List.mem_cons.mp hp with rfl | hp
    · exact hG
    rcases List.mem_cons.mp hp with rfl | hp
    · exact hC
    cases hp
  · rintro ⟨⟩ pre k t u h tk own hk hlt hoff _ _ F₁ N₁
    have hk' : k = (pre.length : Int) := by omega
    have e1 : k.toNat = pre.length := by omega
    have hq : (k - 1).toNat ≤ k.toNat := by omega
    have hp := hb _ (getD_mem (js := js) (i := k.toNat) (by omega))
    have hq0 := hb _ (getD_mem (js := js) (i := (k - 1).toNat) (by omega))
    refine wpAny_mono (turn k _ _ t u h tk own (by omega) (by omega) rfl rfl hq0.1 (asc_le hA hq (by omega)) hp.2 hoff F₁ (by simpa using N₁)) (fun f s₂ p => ?_) fun _ _ e => e
    have fin : TurnEnd2 h₀ env.locals x m₀ [(D, { cls := .type "list", data := .seq vs.toArray kd }), (G, { cls := .type "list", data := .seq ts.toArray kg }), (C, oC)] own { s with heap := h, toks := tk } s₂ →
        InvEndN h₀ env.locals (KstS (σ := Unit) (fun _ => [(D, { cls := .type "list", data := .seq vs.toArray kd }), (G, { cls := .type "list", data := .seq ts.toArray kg }), (C, oC)]) (fun _ => []) (fun _ => True) x lawStored2 m₀ (fun _ _ => True) (pre ++ [k])) own [D, G, C] { s with heap := h, toks := tk } s₂ := by
      rintro ⟨h', tk', m', news', e, F', N', hr, hw, hm⟩
      subst e
      exact kst_end (σ := Unit) () F' N' hr hw rfl trivial (fun _ hp => nomatch hp) (fun z h1 _ h2 => hm z h1 h2) trivial
    cases f with
    | ret v => exact p
    | brk => exact p
    | next => exact fin p
    | cont => exact fin p
  · rintro ⟨⟩ u h tk _ _ F₁ N₁
    exact done u h tk F₁ N₁
end
end Mine
end
section
open PySem PySem.W PyProof PyProof.Rows PySem.Calls
namespace Mine
section
variable {prog : Program} {w : World} {A : Around} {E : Value → Shared → Prop} {s : Shared} {h₀ : Heap} {L : Addr} {m : Str → Option Value} {news : List (Addr × Obj)} {Q : Value → Shared → Prop}
theorem mul_eight {j : Int} {t u : Tok} (hA : A.handled = none) (h : Q (.float (Float64.mul (eighth j) (Float64.ofInt 8)) s.toks) { s with toks := s.toks + 1 }) :
    wpAny (model prog w) A (binaryOp .Mult (.float (eighth j) t) (.int 8 u)) Q E s :=
  mul_fi_sharp hA (fun hb => absurd hb (by have : (2 : Nat) ^ 970 * 2 ^ 54 = 2 ^ 1024 := by rw [← Nat.pow_add]
                                           have h2 : 0 < (2 : Nat) ^ 970 := Nat.pow_pos (by decide)
                                           have h3 : (2 : Nat) ^ 54 = 18014398509481984 := by decide
                                           have h4 : (2 : Nat) ^ 4 ≤ 2 ^ 970 := Nat.pow_le_pow_right (by decide) (by decide)
                                           have h5 : Int.natAbs 8 = 8 := rfl
                                           rw [h5]; rw [h3] at this; omega)) fun _ => h
theorem int_eight {j : Int} {t : Tok} (hA : A.handled = none) (h0 : 0 ≤ j) (h1 : j < 8) (h : Q (.int j s.toks) { s with toks := s.toks + 1 }) :
    wpAny (model prog w) A (call (.type "int") [.float (Float64.mul (eighth j) (Float64.ofInt 8)) t]) Q E s := by
  obtain ⟨x, rfl⟩ := fin8 ⟨h0, h1⟩
  obtain ⟨e1, e2, e3⟩ := e_int x
  refine Flt.call_int_float3 hA (fun c => ?_) (fun c => ?_) fun _ => ?_
  · rw [e2] at c; cases c
  · rw [e3] at c; cases c
  · rw [e1]; exact h
theorem rot_len : ∀ f : Fin 4, ∀ p : Fin 8, (rotE (f.val : Int) (p.val : Int)).length = 8 := by decide +kernel
theorem rot_len8 {f p : Int} (h0 : 0 ≤ f) (h1 : f ≤ 3) (hp : 0 ≤ p ∧ p < 8) : (rotE f p).length = 8 := by
  obtain ⟨a, rfl⟩ := fin4 h0 h1
  obtain ⟨b, rfl⟩ := fin8 hp
  exact rot_len a b
noncomputable def tailE (f p : Int) : Str := Txt.slice (ringE f) (some p) none
end
section
variable {w : World} {mean : ExcName → Option Value} {mg mb : Str → Option Value} {f p q : Int} {tx tw tb tc : Tok} {news : List (Addr × Obj)} {dp un : Nat} {gd : Option (List Code)} {cn : Str} {cs : Scope} {aa : Addr} {ccd : Value} {cl : List (Str × Addr)} {outer : List Env} {A₀ : Around} {base h₀ : Heap} {L : Addr} {m : Str → Option Value} {s : Shared} {Q E : Value → Shared → Prop}
theorem hdn_use (hf0 : 0 ≤ f) (hf1 : f ≤ 3) (hp0 : 0 ≤ p) (hp1 : p < 8)
    (B : Below A₀ base outer h₀) (F : Fr h₀ L s.heap m) (X : (hd.heap_39 w.params).In h₀) (N : News h₀ L s.heap news) (T : Top hd.view_39 LN mean mg mb h₀) (hk : cs.kind = .function) (hdp : dp + 9 < recursionLimit) (hun : un + 99 < cLine)
    (hret : ∀ (h' : Heap) (tk' : Nat), Fr h₀ L h' m → News h₀ L h' news → Q (.bool (decide (p > f + 1))) { s with heap := h', toks := tk' }) :
    wpAny (model PySem.Challenge.rw_xe0026_01.row.prog w) (ktrTop dp un gd cn cs L aa ccd cl outer) (call (.ref 63) [.str (rotE f p) tx]) Q E s := by
  obtain ⟨a, rfl⟩ := fin4 hf0 hf1
  obtain ⟨b, rfl⟩ := fin8 ⟨hp0, hp1⟩
  have h := h_ok a b
  unfold hOk at h
  split at h
  · rename_i r e
    refine is_HDN_wp (rot_len a b) e B F X N T hk hdp hun ?_
    intro h' tk' F' N'
    rw [beq_iff_eq.mp h]
    exact hret h' tk' F' N'
  · cases h
theorem bare_use (hf0 : 0 ≤ f) (hf1 : f ≤ 3) (hp0 : 0 ≤ p) (hp1 : p < 8)
    (B : Below A₀ base [] h₀) (F : Fr h₀ L s.heap m) (X : (hd.heap_39 w.params).In h₀) (N : News h₀ L s.heap news) (T : Top hd.view_39 LN mean mg mb h₀) (XB : (hd.heap_39 w.params).In base) (TB : Top hd.view_39 LN mean mg mb base) (hk : cs.kind = .function) (hdp : dp + 9 < recursionLimit) (hun : un + 99 < cLine)
    (hno : (p < 2 ∨ p > f + 1) → ∀ (t : Tok) (h' : Heap) (tk' : Nat), Fr h₀ L h' m → News h₀ L h' news → Q (.str (Str.ofString "<address _law_bare() failed>") t) { s with heap := h', toks := tk' })
    (hyes : (2 ≤ p ∧ p ≤ f + 1) → ∀ (t : Tok) (h' : Heap) (tk' : Nat), Fr h₀ L h' m → News h₀ L h' news → Q (.str (tailE f p) t) { s with heap := h', toks := tk' }) :
    wpAny (model PySem.Challenge.rw_xe0026_01.row.prog w) (ktrTop dp un gd cn cs L aa ccd cl []) (call (.ref 85) [.str (rotE f p) tx, .str (Str.ofString "address") tw, .ref 120]) Q E s := by
  obtain ⟨a, rfl⟩ := fin4 hf0 hf1
  obtain ⟨b, rfl⟩ := fin8 ⟨hp0, hp1⟩
  have h := b_ok a b
  unfold bOk at h
  split at h
  · rename_i e
    exact bare_none (rot_len a b) e B F X N T XB TB hk hdp hun (hno (by simpa using h))
  · rename_i li sp e
    simp only [Bool.and_eq_true, decide_eq_true_eq] at h
    obtain ⟨⟨⟨⟨⟨h1, h2⟩, h3⟩, _⟩, _⟩, _⟩ := h
    refine bare_some (rot_len a b) e h2 B F X N T hk hdp hun ?_
    intro t h' tk' F' N'
    rw [beq_iff_eq.mp h3]
    exact hyes h1 t h' tk' F' N'
  · cases h
theorem lev_bare (hf0 : 0 ≤ f) (hf1 : f ≤ 3) (hp : 2 ≤ p ∧ p ≤ f + 1)
    (B : Below A₀ base outer h₀) (F : Fr h₀ L s.heap m) (X : (hd.heap_39 w.params).In h₀) (N : News h₀ L s.heap news) (T : Top hd.view_39 LN mean mg mb h₀) (hk : cs.kind = .function) (hdp : dp + 9 < recursionLimit) (hun : un + 99 < cLine)
    (hret : ∀ (t : Tok) (h' : Heap) (tk' : Nat), Fr h₀ L h' m → News h₀ L h' news → Q (.int (2 * p) t) { s with heap := h', toks := tk' }) :
    wpAny (model PySem.Challenge.rw_xe0026_01.row.prog w) (ktrTop dp un gd cn cs L aa ccd cl outer) (call (.ref 99) [.str (rotE f p) tx, .str (tailE f p) tb, .int 16 tc]) Q E s := by
  obtain ⟨a, rfl⟩ := fin4 hf0 hf1
  obtain ⟨b, rfl⟩ := fin8 (j := p) ⟨by omega, by omega⟩
  have h := b_ok a b
  unfold bOk at h
  split at h
  · rename_i e
    simp only [decide_eq_true_eq] at h
    omega
  · rename_i li sp e
    simp only [Bool.and_eq_true, decide_eq_true_eq, Bool.not_eq_true', List.all_eq_true, List.mem_range] at h
    obtain ⟨⟨⟨⟨⟨h1, h2⟩, h3⟩, h4⟩, h5⟩, h6⟩ := h
    have hit : ∀ n : Nat, 8 - (b.val : Int).toNat = n → ∀ i : Int, 0 ≤ i → i < ((n : Nat) : Int) → (Txt.item (rotE (a.val : Int) (b.val : Int)) i == Txt.item (tailE (a.val : Int) (b.val : Int)) i) = true := by
      intro n hn i i0 i1
      have := h5 i.toNat (by omega)
      have e : ((i.toNat : Nat) : Int) = i := by omega
      rw [e] at this
      exact this
    have hb : b.val = 2 ∨ b.val = 3 ∨ b.val = 4 := by have := a.isLt; omega
    rcases hb with hb | hb | hb
    · have hn : 8 - (b.val : Int).toNat = 6 := by omega
      have e2 : 2 * (b.val : Int) = 4 := by omega
      refine lev_pre6 (rot_len a b) (h6.trans hn) h4 (hit 6 hn) B F X N T hk hdp hun ?_
      rw [e2] at hret
      exact hret
    · have hn : 8 - (b.val : Int).toNat = 5 := by omega
      have e2 : 2 * (b.val : Int) = 6 := by omega
      refine lev_pre5 (rot_len a b) (h6.trans hn) h4 (hit 5 hn) B F X N T hk hdp hun ?_
      rw [e2] at hret
      exact hret
    · have hn : 8 - (b.val : Int).toNat = 4 := by omega
      have e2 : 2 * (b.val : Int) = 8 := by omega
      refine lev_pre4 (rot_len a b) (h6.trans hn) h4 (hit 4 hn) B F X N T hk hdp hun ?_
      rw [e2] at hret
      exact hret
  · cases h
theorem min_ok {a b : Str} : ∀ n : Nat, minOk a b n = true → ∀ k : Nat, k < n → (inN a (Txt.item b k) k (outN a b k).2 8).2.2.1 ≤ 16
  | 0, _, k, hk => absurd hk (Nat.not_lt_zero k)
  | n + 1, h, k, hk => by
    unfold minOk at h
    simp only [Bool.and_eq_true, decide_eq_true_eq] at h
    rcases Nat.lt_succ_iff_lt_or_eq.mp hk with hk | rfl
    · exact min_ok n h.1 k hk
    · exact h.2
theorem lev_rot (hf0 : 0 ≤ f) (hf1 : f ≤ 3) (hq0 : 0 ≤ q) (hqp : q ≤ p) (hp1 : p < 8)
    (B : Below A₀ base outer h₀) (F : Fr h₀ L s.heap m) (X : (hd.heap_39 w.params).In h₀) (N : News h₀ L s.heap news) (T : Top hd.view_39 LN mean mg mb h₀) (hk : cs.kind = .function) (hdp : dp + 9 < recursionLimit) (hun : un + 99 < cLine)
    (hret : ∀ (t : Tok) (h' : Heap) (tk' : Nat), Fr h₀ L h' m → News h₀ L h' news → Q (.int (4 * min (p - q) (8 - (p - q))) t) { s with heap := h', toks := tk' }) :
    wpAny (model PySem.Challenge.rw_xe0026_01.row.prog w) (ktrTop dp un gd cn cs L aa ccd cl outer) (call (.ref 99) [.str (rotE f q) tx, .str (rotE f p) tb, .int 16 tc]) Q E s := by
  by_cases hlt : q < p
  · obtain ⟨a, rfl⟩ := fin4 hf0 hf1
    obtain ⟨b, rfl⟩ := fin8 (j := q) ⟨hq0, by omega⟩
    obtain ⟨c, rfl⟩ := fin8 (j := p) ⟨by omega, hp1⟩
    have h := d_ok a b c (by omega)
    unfold dOk at h
    simp only [Bool.and_eq_true, decide_eq_true_eq, Bool.not_eq_true'] at h
    obtain ⟨⟨⟨⟨h1, h2⟩, h3⟩, h4⟩, h5⟩ := h
    refine lev_diff (rot_len a b) (rot_len a c) h1 h2 h3 (min_ok 8 h4) B F X N T hk hdp hun ?_
    rw [h5]
    exact hret
  · have e : p = q := by omega
    subst e
    refine lev_same (rot_len8 hf0 hf1 ⟨by omega, hp1⟩) (rot_len8 hf0 hf1 ⟨by omega, hp1⟩) (beq_self_eq_true _) B F X N T hk hdp hun ?_
    have e2 : 4 * min (p - p) (8 - (p - p)) = 0 := by rw [Int.sub_self]; decide
    rw [e2] at hret
    exact hret
end
end Mine
end
section
open PySem PySem.W PyProof PyProof.Rows PySem.Calls
namespace Mine
theorem ring_eq {f : Int} {y1 y2 : Str} (h1 : y1 = Txt.slice (Str.ofString "907") none (some f)) (h2 : y2 = Txt.slice (Str.ofString "abcdefg") none (some (7 - f))) : Str.ofString "." ++ y1 ++ y2 = ringE f := by
  subst h1 h2; rfl
theorem hok_size {vs : List Value} {js : List Int} {n : Nat} (h : HOk vs js n) (hn : n ≤ 3) : vs.toArray.size ≤ sizeLine := by
  rw [List.size_toArray, h.a.length, sizeLine_eq]
  have := h.l
  omega
theorem ints_size {vs ws : List Value} {js : List Int} (hi : IntsAre vs js) (h : HOk ws js 3) : vs.toArray.size ≤ sizeLine := by
  rw [List.size_toArray, hi.length, sizeLine_eq]
  have := h.l
  omega
section
open PySem.Spec
variable {prog : Program} {w : World} {A : Around} {E : Value → Shared → Prop} {s : Shared} {value slice : Expr} {t : Tok} {h₀ : Heap} {L : Addr} {m : Str → Option Value} {news : List (Addr × Obj)} {Q : Value → Shared → Prop}
theorem ring_tail {f j : Int} {ui : Tok} (hf : Fig f) (h0 : 0 ≤ j) (h1 : j < 8) (hF : Fr h₀ L s.heap m) (hN : News h₀ L s.heap news)
    (h : ∀ h' t' k, (tailE f j).length = 8 - j.toNat → Fr h₀ L h' m → News h₀ L h' news → Q (.str (tailE f j) t') { s with heap := h', toks := k })
    (hs : subscripted slice false (.str (ringE f) t) (.ref s.heap.objs.size) = operate [.ref s.heap.objs.size, .str (ringE f) t] (getItem (.str (ringE f) t) (.ref s.heap.objs.size)) := by with_unfolding_all rfl)
    (ht : ∀ r, letTemporaryGo value (.str (ringE f) t) r = pure () := by intro _; with_unfolding_all rfl) :
    wpAny (model prog w) A (subscriptTail value slice (.str (ringE f) t) (.ref s.heap.objs.size)) Q E { s with heap := s.heap.push { cls := .type "slice", data := .fields #[.int j ui, .none, .none] } } := by
  have e := ring_len8 hf.lo hf.hi
  refine slice_strN_sn hF hN (fun h' t' k a b => h h' t' k ?_ a b) hs ht (by rw [e, sizeLine_eq]; omega)
  unfold tailE
  rw [slen h0 (by rw [e]; omega), e]
theorem ring_head {f j : Int} {ui : Tok} (hf : Fig f) (h0 : 0 ≤ j) (h1 : j < 8) (hF : Fr h₀ L s.heap m) (hN : News h₀ L s.heap news)
    (h : ∀ h' t' k, (Txt.slice (ringE f) none (some j)).length = j.toNat → Fr h₀ L h' m → News h₀ L h' news → Q (.str (Txt.slice (ringE f) none (some j)) t') { s with heap := h', toks := k })
    (hs : subscripted slice false (.str (ringE f) t) (.ref s.heap.objs.size) = operate [.ref s.heap.objs.size, .str (ringE f) t] (getItem (.str (ringE f) t) (.ref s.heap.objs.size)) := by with_unfolding_all rfl)
    (ht : ∀ r, letTemporaryGo value (.str (ringE f) t) r = pure () := by intro _; with_unfolding_all rfl) :
    wpAny (model prog w) A (subscriptTail value slice (.str (ringE f) t) (.ref s.heap.objs.size)) Q E { s with heap := s.heap.push { cls := .type "slice", data := .fields #[.none, .int j ui, .none] } } := by
  have e := ring_len8 hf.lo hf.hi
  exact slice_strN_ns hF hN (fun h' t' k a b => h h' t' k (shead h0 (by rw [e]; omega)) a b) hs ht (by rw [e, sizeLine_eq]; omega)
end
section
variable {prog : Program} {w : World} {A : Around} {E : Value → Shared → Prop} {s : Shared} {h₀ : Heap} {L : Addr} {m : Str → Option Value} {news : List (Addr × Obj)} {Q : Value → Shared → Prop}
theorem isnot_same {b c : Bool} (e : b = c) (h : Q (.bool false) s) : wpAny (model prog w) A (compareOp .IsNot (.bool b) (.bool c)) Q E s := by
  subst e
  exact wpAny_isNot_self (by rfl) h
theorem ne_str_same {x : Str} {t u : Tok} (h : Q (.bool false) s) : wpAny (model prog w) A (compareOp .NotEq (.str x t) (.str x u)) Q E s :=
  PyProof.Rows.ne_str (by rw [bne_self_eq_false]; exact h)
theorem ne_int_same {a b : Int} {t u : Tok} (e : a = b) (h : Q (.bool false) s) : wpAny (model prog w) A (compareOp .NotEq (.int a t) (.int b u)) Q E s := by
  subst e
  exact PyProof.Rows.ne_int (by rw [bne_self_eq_false]; exact h)
theorem len_I {l : Addr} {vs : List Value} {js : List Int} (hi : IntsAre vs js) (hl : s.heap.IsList l vs.toArray) (h3 : js.length ≤ 3) (h : ∀ t tk, Q (.int js.length t) { s with toks := tk }) : wpAny (model prog w) A (call (.builtin "len") [.ref l]) Q E s := by
  have e : vs.toArray.size = js.length := by rw [List.size_toArray]; exact hi.length
  have h63 : (2 : Int) ^ 63 = 9223372036854775808 := by decide
  refine call_len_list hl (by rw [e, h63]; omega) ?_
  rw [e]
  exact h _ _
theorem min_ints {a b : Int} {t u : Tok} (hh : A.handled = none) (F : Fr h₀ L s.heap m) (N : News h₀ L s.heap news)
    (h : ∀ t' h' tk, Fr h₀ L h' m → News h₀ L h' news → Q (.int (min a b) t') { s with heap := h', toks := tk }) : wpAny (model prog w) A (call (.builtin "min") [.int a t, .int b u]) Q E s := by
  refine min_two_N hh F N fun h' tk F' N' => ?_
  have e : (if b < a then b else a) = min a b := by rw [Int.min_def]; split <;> split <;> omega
  rw [e]
  exact h _ h' tk F' N'
end
section
variable {prog : Program} {w : World} {A : Around} {h₀ : Heap} {L : Addr} {m : Str → Option Value} {env : Env} {elt : Expr} {x : Str} {scope : Scope} {cl : List (Str × Addr)} {s : Shared} {S : List (Addr × Obj) → Prop} {Fin : List Value → List (Addr × Obj) → Prop} {news : List (Addr × Obj)}
/-- the comprehension over the places: each gives its reading of the ring -/
theorem comp_R {vs ws : List Value} {js : List Int} {f : Int} (hf : Fig f) (hi : IntsAre vs js) (ok : HOk ws js 3)
    (turn : ∀ j t I oI C oC D m₂ ys h tk (E' : Value → Shared → Prop), 0 ≤ j → j < 8 → LCg.NsObj oC m₂ → m₂ x = some (.int j t) → Fr h₀ L h m → News h₀ L h ((I, oI) :: (C, oC) :: (D, LCg.lst ys) :: news) → LCg.Off3 I C D news → ((@Ne Nat I C) ∧ (@Ne Nat I D) ∧ (@Ne Nat C D)) →
      wpAny (model prog w) A (eval elt (compEnvC scope cl C env)) (LCg.CompEnd h₀ L m { s with heap := h, toks := tk } I oI C oC D (LCg.lst ys) S (fun y news' => KCtEl news (rotE f j) y news')) E' { s with heap := h, toks := tk })
    (fin : ∀ ys, TAre (rotE f) ys js → Fin ys news) : LCg.CompRest prog w A h₀ L m env elt x scope cl s S (fun i v => vs.toArray[i]? = some v) Fin vs.toArray.size 0 [] news :=
  comp_T (rotE f) hi ok.b turn fin
end
theorem ct_end {h₀ : Heap} {L I C D : Addr} {m : Str → Option Value} {s₁ : Shared} {oI oC oD : Obj} {S : List (Addr × Obj) → Prop} {r r' : Str} {t : Tok} {h' : Heap} {tk : Nat} {news : List (Addr × Obj)}
    (F : Fr h₀ L h' m) (N : News h₀ L h' ((I, oI) :: (C, oC) :: (D, oD) :: news)) (off : LCg.Off3 I C D news) (hS : S news) (e : r = r') :
    LCg.CompEnd h₀ L m s₁ I oI C oC D oD S (fun y news' => KCtEl news r y news') (.str r' t) { s₁ with heap := h', toks := tk } :=
  LCg.CompEnd.intro F N news (fun _ hp => hp) off hS (kct_el e rfl rfl)
theorem not_st2 {z : Str} (h : lawStored2.contains z = false) : z ≠ Str.ofString "place" ∧ z ≠ Str.ofString "bare" ∧ z ≠ Str.ofString "way" := by
  refine ⟨?_, ?_, ?_⟩ <;> (rintro rfl; exact absurd h (by decide +kernel))
end Mine
end
section
open PySem PySem.W PyProof PyProof.Rows
namespace Mine
local macro_rules | `(tactic| walk_at $s:str) => `(tactic| k_extra $s)
set_option maxRecDepth 100000 in
set_option maxHeartbeats 8000000 in
theorem law_holds : PySem.Challenge.rw_xe0026_01.Holds := by
  refine hd (by w_top off; k_go0; (all_goals try k_fold); (w_top off; k_with_none; (k_with "execs cons" => ((k_here; (first | with_reducible refine tok_pos (by omega) ?_ | (dsimp only; with_reducible refine tok_pos (by omega) ?_)); intro _ _))); (k_with "execs nil" => ((k_here; (first | with_reducible refine tok_pos (by omega) ?_ | (dsimp only; with_reducible refine tok_pos (by omega) ?_)); intro _ _))); (k_with "binaryOp Mod int int" => ((k_here; (with_reducible refine mod_four ?_); intro _ _ _))); (k_with "subscriptTail" => ((k_here; (with_reducible show wpAny _ _ (subscriptTail _ (Expr.Slice none (some _) none _) (Value.str _ _) (Value.ref _)) _ _ _); (with_reducible rename Fr _ _ _ _ => F'); (with_reducible rename News _ _ _ _ => N'); (refine sl_head (h0 := ?n3h0) (h1 := ?n3h1) (hsz := ?n3hsz) (s := ⟨_, _, _, _, _⟩) F' N' ?_); (case n3h0 => omega); (case n3h1 => first | exact le907 (by omega) | exact leabc (by omega) | omega); (case n3hsz => first | exact Nat.le_of_ble_eq_true rfl | size_fits); intro _ _ _ _ _ _ _ _))); (k_with "binaryOp Add str str" => ((k_here; (with_reducible show wpAny _ _ (binaryOp Operator.Add (Value.str _ _) (Value.str _ _)) _ _ _); (refine KXadd.add (K := 65536) (L := 65536) ?n4kxaa ?n4kxab ?n4kxac ?_; (case n4kxaa => first | omega | exact Nat.le_of_ble_eq_true rfl); (case n4kxab => first | omega | exact Nat.le_of_ble_eq_true rfl); (case n4kxac => exact Nat.le_of_ble_eq_true rfl)); intro _ _ _))); (k_with "subscriptTail Name Slice ref ref" => ((k_here; (with_reducible show wpAny _ _ (subscriptTail _ (PySem.Expr.Slice _ _ none _) (Value.ref _) (Value.ref _)) _ _ _); k_dflt (refine' kmk_slice_ints ?n5F ?n5N ?n5l ?n5p ?n5q ?n5i ?n5m ?n5c ?_ ?n5s ?n5t ?n5z; (case n5F => k_asm); (case n5N => k_asm); (case n5l => kmk_list); (case n5p => kmk_part); (case n5q => kmk_part); (case n5i => l_ints); (case n5m => first | with_reducible exact kmk_upto (by l_ints) (by kmk_sign) | with_reducible exact kmk_from (by l_ints) (by kmk_sign)); (case n5c => kmk_len); (case n5s => with_unfolding_all rfl); (case n5t => kmk_pure); (case n5z => kmk_size)); intro D' ws' h' F' N' l1 hI' hC' hL'; (try simp only [Int.reduceNeg, Int.neg_neg, Int.reduceToNat] at hI' hC' hL'); (try k_lt l1); (try k_sweep)))); (k_with "pyIter ref" => (((rename Fr _ _ _ _ => lF'); (rename News _ _ _ _ => lN'); k_dflt k_dflt (refine' hues_loop ?n6hh ?n6hdC ?n6hrg ?n6hf0 ?n6hf1 ?n6hC ?n6hH ?n6hD ?n6hi ?n6hns ?n6hlen lF' lN' ?n6turn ?n6done; (case n6hh => rfl); (case n6hdC => with_reducible assumption); (case n6hrg => exact ring_eq (by assumption) (by assumption)); (case n6hf0 => assumption); (case n6hf1 => assumption); (case n6hC => k_memK); (case n6hH => k_memK); (case n6hD => k_memK); (case n6hi => assumption); (case n6hns => exact (drawn_ok _).1); (case n6hlen => exact (drawn_ok _).2); (case' n6turn => intro vs' js' k' n' t' u' h' tk' own' nn' hn0 hn1 hOk' hj3 hoff' F' N'); (case' n6done => intro vs' js' k' u' h' tk' hOk' hFig' hdC' hRl' F' N')); (all_goals (try clear lF' lN')); (all_goals (try k_fold)); walk_say "HUES LOOP"))); (k_with "call ref" => ((k_here; (with_reducible show wpAny _ _ (call (Value.ref 106) [Value.int _ _]) _ _ _); k_dflt (refine' zone_use ?n7h0 ?n7h1 ?n7k1 ?n7k2 ?n7k3 ?n7k4 ?n7k5 ?n7kK ?n7kd ?n7ku ?_ ?_; (case n7h0 => assumption); (case n7h1 => assumption); (case n7k1 => k_asm); (case n7k2 => k_asm); (case n7k3 => k_asm); (case n7k4 => k_asm); (case n7k5 => k_asm); (case n7kK => first | exact rfl | assumption); (case n7kd => ktr_room); (case n7ku => ktr_units)); (all_goals first | (intro y' st' z' D' t1' t2' h' tk' F' N' l1) | (intro y' z' D' t1' h' tk' F' N' l1)); (all_goals (try k_lt l1)); (all_goals (try dsimp only)); (all_goals (try k_fold))))); (k_with "call ref" => ((k_here; (with_reducible show wpAny _ _ (call (Value.ref 85) [Value.str _ _, Value.str _ _, Value.ref 113]) _ _ _); k_dflt (first | (refine' paint_no ?n8z ?n8k1 ?n8k2 ?n8k3 ?n8k4 ?n8k5 ?n8k6 ?n8k7 ?n8kK ?n8kd ?n8ku ?_; (case n8z => assumption); (case n8k1 => k_asm); (case n8k2 => k_asm); (case n8k3 => k_asm); (case n8k4 => k_asm); (case n8k5 => k_asm); (case n8k6 => k_asm); (case n8k7 => k_asm); (case n8kK => first | exact rfl | assumption); (case n8kd => ktr_room); (case n8ku => ktr_units); intro t' h' tk' F' N') | (refine' paint_yes ?n8z ?n8k1 ?n8k2 ?n8k3 ?n8k4 ?n8k5 ?n8k6 ?n8k7 ?n8kK ?n8kd ?n8ku ?_; (case n8z => assumption); (case n8k1 => k_asm); (case n8k2 => k_asm); (case n8k3 => k_asm); (case n8k4 => k_asm); (case n8k5 => k_asm); (case n8k6 => k_asm); (case n8k7 => k_asm); (case n8kK => first | exact rfl | assumption); (case n8kd => ktr_room); (case n8ku => ktr_units); intro r' g' b' p' D' t1' t2' t3' h' tk' F' N' l1; (try k_lt l1))); (try dsimp only); (try k_fold)))); (k_with "call ref" => ((k_here; (with_reducible show wpAny _ _ (call (Value.ref 70) [Value.float _ _, Value.float _ _, Value.float _ _]) _ _ _); k_dflt (refine' hls_use ?n9z ?n9k1 ?n9k2 ?n9k3 ?n9k4 ?n9k5 ?n9kK ?n9kd ?n9ku ?_; (case n9z => assumption); (case n9k1 => k_asm); (case n9k2 => k_asm); (case n9k3 => k_asm); (case n9k4 => k_asm); (case n9k5 => k_asm); (case n9kK => first | exact rfl | assumption); (case n9kd => ktr_room); (case n9ku => ktr_units)); intro D' t1' t2' t3' h' tk' hp' F' N' l1; (try k_lt l1); (try dsimp only); (try k_fold)))); (k_with "call builtin:isinstance" => ((k_here; (with_reducible show wpAny _ _ (call (Value.builtin _) [Value.ref _, Value.type _]) _ _ _); k_dflt (refine' isi_tup_str ?n10k1 ?n10k2 ?_; (case n10k1 => k_asm); (case n10k2 => k_mem); intro _)))); (k_with "TurnPost" => ((dsimp only [TurnPost]))); (k_with "compareOp NotEq ref ref" => ((k_here; k_dflt (refine' tup3_ne ?n12N ?n12l ?n12b ?n12hx ?n12ht ?n12hu ?n12nb ?n12hA ?_; (case n12N => k_asm); (case n12l => k_mem); (case n12b => k_mem); (case n12hx => exact ⟨e_selfI (fm8 _).1 (fm8 _).2, half_self, one_self⟩); (case n12ht => assumption); (case n12hu => (refine ⟨?_, ?_, ?_⟩ <;> first | omega | exact Nat.succ_pos _)); (case n12nb => exact booked (by k_asm) (by k_asm) (by k_asm)); (case n12hA => k_units))))); (k_with "call builtin:list.append" => ((k_here; (with_reducible show wpAny _ _ (call (Value.builtin _) [Value.ref _, Value.float _ _]) _ _ _); k_dflt (refine' append_H ?n13k1 ?n13k2 ?n13k3 ?n13k4 ?n13k5 ?_; (case n13k1 => k_asm); (case n13k2 => k_asm); (case n13k3 => k_upd); (case n13k4 => k_asm); (case n13k5 => k_asm)); intro h' F' N'))); (k_with "binaryOp Div int int" => ((k_here; (with_reducible refine div_eight rfl (fm8 _).1 (fm8 _).2 ?_)))); (k_with "call builtin:sorted" => ((k_here; (with_reducible show wpAny _ _ (call (Value.builtin _) [Value.ref _]) _ _ _); k_dflt (refine' sorted_hues ?n15k1 ?n15k2 ?n15k3 ?n15k4 ?_; (case n15k1 => k_asm); (case n15k2 => k_asm); (case n15k3 => exact News.isList (by k_asm) (by k_mem)); (case n15k4 => k_asm)); intro D' vs' js' c' h' F' N' l1 hOk' hAsc'; (try k_lt l1)))); (k_with "exec Assign cons ListComp" => ((first | (k_here; k_dflt (refine LCg.Assign_ListComp_U (F₀ := by k_asm) (by rfl) (by with_unfolding_all rfl) (by with_unfolding_all rfl) (by decide) (by rfl) (by decide) (by rfl) (by rfl) (by rfl) ?_))))); (k_with "CompSrc" => ((first | (k_here; k_dflt (refine LCg.CompSrc.ledger (by rfl) (by k_asm) (by k_asm) (by k_mem) ?n17sz ?_; (case n17sz => exact ints_size (by assumption) (by assumption)); intro g'; (refine' comp_R ?n17hf ?n17hi ?n17hb ?n17turnR ?n17finR; (case n17hf => assumption); (case n17hi => assumption); (case n17hb => assumption); (case' n17turnR => intro j' t' I' oI' C' oC' D' m' ys' h' tk' E' h0' h1' hC' hx' F' N' off' ne'); (case' n17finR => intro ys' hI'); (all_goals (try simp only [LCg.Off3, and_true] at off')); (all_goals (try k_fold)))))))); (k_with "CompSrc" => ((first | (k_here; k_dflt (refine LCg.CompSrc.ledger (by rfl) (by k_asm) (by k_asm) (by k_mem) ?n18sz ?_; (case n18sz => exact hok_size (by assumption) (by decide)); intro g'; (refine' comp_F ?n18ok ?n18turnF ?n18finF; (case n18ok => assumption); (case' n18turnF => intro j' t' I' oI' C' oC' D' m' ys' h' tk' E' h0' h1' hC' hx' F' N' off' ne'); (case' n18finF => intro ys' hI'); (all_goals (try simp only [LCg.Off3, and_true] at off')); (all_goals (try k_fold)))))))); (k_with "KCtEl" => ((first | (exact kct_el (by rfl) (by rfl) (by rfl))))); (k_with "KCfEl" => ((first | (exact kcf_el (by rfl) (by rfl) (by rfl))))); (k_with "binaryOp Mult float int" => ((first | (k_here; k_dflt (refine mul_eight rfl ?_))))); (k_with "call type:int" => ((first | (k_here; (with_reducible show wpAny _ _ (call (Value.type _) [Value.float _ _]) _ _ _); k_dflt (refine int_eight rfl (by assumption) (by assumption) ?_))))); (k_with "subscriptTail" => ((first | (k_here; (with_reducible show wpAny _ _ (subscriptTail _ (Expr.Slice none (some _) none _) (Value.str (ringE _) _) (Value.ref _)) _ _ _); (with_reducible rename Fr _ _ _ _ => F'); (with_reducible rename News _ _ _ _ => N'); k_dflt (refine' ring_head (hf := ?n23hf) (h0 := ?n23h0) (h1 := ?n23h1) (s := ⟨_, _, _, _, _⟩) F' N' ?_; (case n23hf => assumption); (case n23h0 => omega); (case n23h1 => omega)); intro _ _ _ _ _ _)))); (k_with "subscriptTail" => ((first | (k_here; (with_reducible show wpAny _ _ (subscriptTail _ (Expr.Slice (some _) none none _) (Value.str (ringE _) _) (Value.ref _)) _ _ _); (with_reducible rename Fr _ _ _ _ => F'); (with_reducible rename News _ _ _ _ => N'); k_dflt (refine' ring_tail (hf := ?n24hf) (h0 := ?n24h0) (h1 := ?n24h1) (s := ⟨_, _, _, _, _⟩) F' N' ?_; (case n24hf => assumption); (case n24h0 => omega); (case n24h1 => omega)); intro _ _ _ _ _ _)))); (k_with "subscriptTail Name Name ref int" => ((first | (k_here; (with_reducible show wpAny _ _ (subscriptTail _ _ (Value.ref _) (Value.int _ _)) _ _ _); k_dflt (first | (refine' item_I ?n25hi ?n25hl ?n25h0 ?n25h1 ?n25h3 ?n25e ?_ ?n25hs; (case n25hl => exact News.isList (by k_asm) (by k_mem)); (case n25hi => assumption); (case n25h0 => omega); (case n25h1 => omega); (case n25h3 => exact HOk.l (by assumption)); (case n25e => assumption); (case n25hs => with_unfolding_all rfl)) | (refine' item_T ?n25hi ?n25hl ?n25h0 ?n25h1 ?n25h3 ?n25e ?_ ?n25hs; (case n25hl => exact News.isList (by k_asm) (by k_mem)); (case n25hi => assumption); (case n25h0 => omega); (case n25h1 => omega); (case n25h3 => exact HOk.l (by assumption)); (case n25e => assumption); (case n25hs => with_unfolding_all rfl))); intro _)))); (k_with "subscriptTail Name BinOp ref int" => ((first | (k_here; (with_reducible show wpAny _ _ (subscriptTail _ _ (Value.ref _) (Value.int _ _)) _ _ _); k_dflt (first | (refine' item_I ?n26hi ?n26hl ?n26h0 ?n26h1 ?n26h3 ?n26e ?_ ?n26hs; (case n26hl => exact News.isList (by k_asm) (by k_mem)); (case n26hi => assumption); (case n26h0 => omega); (case n26h1 => omega); (case n26h3 => exact HOk.l (by assumption)); (case n26e => assumption); (case n26hs => with_unfolding_all rfl)) | (refine' item_T ?n26hi ?n26hl ?n26h0 ?n26h1 ?n26h3 ?n26e ?_ ?n26hs; (case n26hl => exact News.isList (by k_asm) (by k_mem)); (case n26hi => assumption); (case n26h0 => omega); (case n26h1 => omega); (case n26h3 => exact HOk.l (by assumption)); (case n26e => assumption); (case n26hs => with_unfolding_all rfl))); intro _)))); (k_with "pyIter ref" => ((first | ((with_reducible show wpAny _ _ (pyIter _) _ _ _); (rename Fr _ _ _ _ => lF'); (rename News _ _ _ _ => lN'); k_dflt k_dflt (refine' texts_loop ?n27hh ?n27hdC ?n27hi ?n27hT ?n27hb ?n27hA ?n27h3 ?n27hr ?n27hbn ?n27hC ?n27hD ?n27hG lF' lN' ?n27turnT ?n27doneT; (case n27hr => assumption); (case n27hh => rfl); (case n27hT => assumption); (case n27hi => assumption); (case n27hG => k_memK); (case n27hD => k_memK); (case n27hb => exact HOk.b (by assumption)); (case n27hA => assumption); (case n27h3 => exact HOk.l (by assumption)); (case n27hdC => with_reducible assumption); (case n27hC => k_memK); (case n27hbn => first | rfl | omega | (simp only [List.size_toArray, IntsAre.length (by assumption)]; try omega)); (case' n27turnT => intro k' p' q' t' u' h' tk' own' hk0' hk1' he0' he1' hq0' hqp' hp1' hoff' F' N'); (case' n27doneT => intro u' h' tk' F' N')); (all_goals (try clear lF' lN')); (all_goals (try k_fold)); walk_say "TEXTS LOOP")))); (k_with "TurnPost2" => ((first | (dsimp only [TurnPost2])))); (k_with "call ref" => ((first | (k_here; (with_reducible show wpAny _ _ (call (Value.ref 63) [Value.str (rotE _ _) _]) _ _ _); k_dflt ((refine' hdn_use ?n29f0 ?n29f1 ?n29p0 ?n29p1 ?n29k1 ?n29k2 ?n29k3 ?n29k4 ?n29k5 ?n29kK ?n29kd ?n29ku ?_; (case n29f0 => exact Fig.lo (by assumption)); (case n29f1 => exact Fig.hi (by assumption)); (case n29p0 => omega); (case n29p1 => omega); (case n29k1 => k_asm); (case n29k2 => k_asm); (case n29k3 => k_asm); (case n29k4 => k_asm); (case n29k5 => k_asm); (case n29kK => first | exact rfl | assumption); (case n29kd => ktr_room); (case n29ku => ktr_units))); intro h' tk' F' N'; (all_goals (try dsimp only)); (all_goals (try k_fold)))))); (k_with "call ref" => ((first | (k_here; (with_reducible show wpAny _ _ (call (Value.ref 85) [Value.str (rotE _ _) _, Value.str _ _, Value.ref 120]) _ _ _); k_dflt ((refine' bare_use ?n30f0 ?n30f1 ?n30p0 ?n30p1 ?n30k1 ?n30k2 ?n30k3 ?n30k4 ?n30k5 ?n30k6 ?n30k7 ?n30kK ?n30kd ?n30ku ?_ ?_; (case n30f0 => exact Fig.lo (by assumption)); (case n30f1 => exact Fig.hi (by assumption)); (case n30p0 => omega); (case n30p1 => omega); (case n30k1 => k_asm); (case n30k2 => k_asm); (case n30k3 => k_asm); (case n30k4 => k_asm); (case n30k5 => k_asm); (case n30k6 => k_asm); (case n30k7 => k_asm); (case n30kK => first | exact rfl | assumption); (case n30kd => ktr_room); (case n30ku => ktr_units))); (all_goals intro hW' t' h' tk' F' N'); (all_goals (try dsimp only)); (all_goals (try k_fold)))))); (k_with "call ref" => ((first | (k_here; (with_reducible show wpAny _ _ (call (Value.ref 99) [Value.str (rotE _ _) _, Value.str (tailE _ _) _, Value.int _ _]) _ _ _); k_dflt ((refine' lev_bare ?n31f0 ?n31f1 ?n31p0 ?n31k1 ?n31k2 ?n31k3 ?n31k4 ?n31k5 ?n31kK ?n31kd ?n31ku ?_; (case n31f0 => exact Fig.lo (by assumption)); (case n31f1 => exact Fig.hi (by assumption)); (case n31p0 => omega); (case n31k1 => k_asm); (case n31k2 => k_asm); (case n31k3 => k_asm); (case n31k4 => k_asm); (case n31k5 => k_asm); (case n31kK => first | exact rfl | assumption); (case n31kd => ktr_room); (case n31ku => ktr_units))); intro t' h' tk' F' N'; (all_goals (try dsimp only)); (all_goals (try k_fold)))))); (k_with "call ref" => ((first | (k_here; (with_reducible show wpAny _ _ (call (Value.ref 99) [Value.str (rotE _ _) _, Value.str (rotE _ _) _, Value.int _ _]) _ _ _); k_dflt ((refine' lev_rot ?n32f0 ?n32f1 ?n32q0 ?n32qp ?n32p1 ?n32k1 ?n32k2 ?n32k3 ?n32k4 ?n32k5 ?n32kK ?n32kd ?n32ku ?_; (case n32f0 => exact Fig.lo (by assumption)); (case n32f1 => exact Fig.hi (by assumption)); (case n32q0 => omega); (case n32qp => omega); (case n32p1 => omega); (case n32k1 => k_asm); (case n32k2 => k_asm); (case n32k3 => k_asm); (case n32k4 => k_asm); (case n32k5 => k_asm); (case n32kK => first | exact rfl | assumption); (case n32kd => ktr_room); (case n32ku => ktr_units))); intro t' h' tk' F' N'; (all_goals (try dsimp only)); (all_goals (try k_fold)))))); (k_with "compareOp IsNot bool bool" => ((first | (k_here; k_dflt (refine isnot_same (by with_unfolding_all rfl) ?_))))); (k_with "compareOp NotEq str str" => ((first | (k_here; k_dflt (refine ne_str_same ?_))))); (k_with "compareOp NotEq int int" => ((first | (k_here; k_dflt (refine ne_int_same (by first | rfl | omega) ?_))))); (k_with "call builtin:min" => ((first | (k_here; (with_reducible show wpAny _ _ (call (Value.builtin _) [Value.int _ _, Value.int _ _]) _ _ _); k_dflt (refine' min_ints rfl ?n36k1 ?n36k2 ?_; (case n36k1 => k_asm); (case n36k2 => k_asm)); intro t' h' tk' F' N'; (all_goals (try dsimp only)); (all_goals (try k_fold)))))); (k_with "call builtin:len" => ((first | (k_here; (with_reducible show wpAny _ _ (call (Value.builtin _) [Value.ref _]) _ _ _); k_dflt (refine' len_I ?n37li ?n37ll ?n37l3 ?_; (case n37ll => exact News.isList (by k_asm) (by k_mem)); (case n37li => assumption); (case n37l3 => exact HOk.l (by assumption))); intro _ _)))); (k_with "CompEnd" => ((first | (k_dflt (refine ct_end (by assumption) (by assumption) (by first | assumption | (simp only [LCg.Off3, and_true]; done) | (simp only [LCg.Off3, and_true]; assumption)) (by first | lcg_src | assumption) (by rfl)))))); (k_with "TurnEnd2" => ((first | (k_dflt (refine' turn_end2 ?n39F ?n39N ?n39hr ?n39hw ?n39hm; (case n39F => k_asm); (case n39N => k_asm); (case n39hr => k_allIn); (case n39hw => (intro p hp; k_ownIn)); (case n39hm => (intro z h1 h2; obtain ⟨a, b, c⟩ := not_st2 h2; simp only [a, b, c, h1, h2, if_false, Bool.false_eq_true]))))))); (k_with "TurnEnd" => ((first | (k_dflt (first | (refine' turn_end ?n40F ?n40N ?n40ho ?n40hr ?n40hw ?n40hm; (case n40F => k_asm); (case n40N => k_asm); (case n40hr => k_allIn); (case n40ho => exact HOk.snoc (by assumption)); (case n40hw => (intro p hp; k_ownIn)); (case n40hm => (intro z h1 h2; obtain ⟨a, b, c, d⟩ := not_st h2; simp only [a, b, c, d, h1, h2, if_false, Bool.false_eq_true]))) | (refine' turn_end ?n40F ?n40N ?n40ho ?n40hr ?n40hw ?n40hm; (case n40F => k_asm); (case n40N => k_asm); (case n40hr => k_allIn); (case n40ho => exact HOk.up (by assumption)); (case n40hw => (intro p hp; k_ownIn)); (case n40hm => (intro z h1 h2; obtain ⟨a, b, c, d⟩ := not_st h2; simp only [a, b, c, d, h1, h2, if_false, Bool.false_eq_true])))))))); k_steps))
end Mine
end
theorem PySem.Challenge.cw_xe0026_01_holds : PySem.Challenge.rw_xe0026_01.Holds :=
  Mine.law_holds
