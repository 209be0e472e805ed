import PyProof.Rows.All
import Wide.All
import OpenK.AllK
import Wide.FinOn
import Lean
import PySem.Challenge.RW_bq0029_01
open PySem PySem.W PyProof.Rows
set_option Elab.async false
set_option maxRecDepth 100000
namespace Mine
set_option maxHeartbeats 8000000 in
open_top hd for PySem.Challenge.rw_bq0029_01
noncomputable section
local macro_rules | `(tactic| k_upd) => `(tactic| assumption)
local macro_rules | `(tactic| size_fits) => `(tactic| ((try simp only [List.size_toArray, List.length_append, List.length_cons, List.length_nil, Array.size_push]); rw [PySem.sizeLine_eq]; omega))
local macro_rules | `(tactic| k_room) => `(tactic| (refine Nat.lt_of_lt_of_le ?_ (Nat.le_of_ble_eq_true rfl : 1000 ≤ recursionLimit); (try simp only [depth_under_make, depth_under_kw, depth_in1, depth_deeper, depth_caller]); (try dsimp only [ktrTop] at *); omega))
local macro_rules | `(tactic| k_units) => `(tactic| (refine Nat.lt_of_lt_of_le ?_ (Nat.le_of_ble_eq_true rfl : 9900 ≤ cLine); (try simp only [units_in1, units_deeper, Around.mark_units, units_caller]); (try dsimp only [ktrTop] at *); omega))
local macro_rules | `(tactic| walk_at "compareOp IsNot int ref") => `(tactic| (k_here; (refine wpAny_isNot_other (by rfl) (by intro x; cases x) ?_)))
local macro_rules | `(tactic| walk_at "compareOp Is int ref") => `(tactic| (k_here; (refine wpAny_is_other (by rfl) (by intro x; cases x) ?_)))
local macro_rules | `(tactic| k_all) => `(tactic| assumption)
local macro_rules | `(tactic| k_mem) => `(tactic| first | (with_reducible assumption) | exact List.mem_cons_self | (refine List.mem_cons_of_mem _ ?_; k_mem) | (refine List.mem_append.mpr (Or.inl ?_); k_mem) | (refine List.mem_append.mpr (Or.inr ?_); k_mem))
local macro_rules | `(tactic| news_mem) => `(tactic| k_mem)
local macro_rules | `(tactic| ktr_enter) => `(tactic| (refine' code_def ?k1 ?k2 ?k3 ?k4 ?k5 ?kA ?kF ?kK ?k6 ?k7 ?k8 ?k9 ?kB ?_ ?c2 ?c3 ?c4 ?c5; (case kA => exact rfl); (case kF => exact rfl); (case kK => assumption); (case k1 => k_asm); (case k2 => k_asm); (case k3 => k_asm); (case k4 => k_asm); (case k5 => k_asm); (case k6 => k_is); (case k7 => k_is); (case k8 => ktr_room); (case k9 => exact binds_K (by k_in) rfl (by k_is) rfl rfl rfl); (case c5 => decide); (case kB => exact locs rfl); (case c2 => exact rfl); (case c3 => exact rfl); (case c4 => exact rfl); k_whole; intro g' L' h' FG' F' N' B' X' T'; (try dsimp only); (try k_lift B'); (try k_fold)))
local macro_rules | `(tactic| walk_at "wpAt") => `(tactic| ((try dsimp only); ks_step "exec Expr"; k_dflt (refine ks_wpAt_Expr_any ?_)))
local macro_rules | `(tactic| walk_at "wpAt") => `(tactic| ((try dsimp only); ks_step "eval Call"; k_dflt (refine ks_wpAt_MethodCall ?_)))
local macro_rules | `(tactic| walk_at "wpAt") => `(tactic| ((try dsimp only); ks_step "execs cons"; k_dflt (refine ks_wpAt_execs_cons ?_)))
local macro_rules | `(tactic| walk_at "wpAt") => `(tactic| ((try dsimp only); ks_step "attributeBase Call"; k_here; k_dflt (refine ks_node (by k_asm) (by k_asm) (by k_asm) (by k_asm) (by k_is) (by rfl) (by rfl) (by k_inst) (by k_is) (by rfl) (by first | rfl | decide +kernel) (by k_is) (by k_is) (by k_is) (by k_is) (by decide) (by rfl) (by rfl) (by rfl) (by rfl) (by decide +kernel) (by first | boot_by_name | rfl | kernel_rfl) ?_; intro so' h' F' N' l1; (try k_lt l1))))
local macro_rules | `(tactic| ks_enter) => `(tactic| (refine' ks_code_super ?k1 ?k2 ?k3 ?k4 ?k5 ?kA ?kF ?kK ?k6 ?k7 ?k8 ?k9 ?kB ?_ ?c1 ?c2 ?c3 ?c4; (case kA => exact rfl); (case kF => exact rfl); (case kK => exact rfl); (case k1 => k_asm); (case k2 => k_asm); (case k3 => k_asm); (case k4 => k_asm); (case k5 => k_asm); (case k6 => k_is); (case k7 => k_is); (case k8 => k_room); (case k9 => exact binds_K (by k_in) rfl (by k_is) rfl rfl rfl); (case kB => exact locs rfl); (case c1 => decide); (case c2 => exact rfl); (case c3 => exact rfl); (case c4 => exact rfl); intro g' L' h' FG' F' N' B' X' T' l1; (try k_lt l1); (try dsimp only); (try k_lift B')))
local macro_rules | `(tactic| ktr_enter) => `(tactic| (refine' code_def ?k1 ?k2 ?k3 ?k4 ?k5 ?kA ?kF ?kK ?k6 ?k7 ?k8 ?k9 ?kB ?_ ?c2 ?c3 ?c4 ?c5; (case kA => exact rfl); (case kF => exact rfl); (case kK => assumption); (case k1 => k_asm); (case k2 => k_asm); (case k3 => k_asm); (case k4 => k_asm); (case k5 => k_asm); (case k6 => k_is); (case k7 => k_is); (case k8 => ktr_room); (case k9 => exact BindsTo.of_eq rfl); (case c5 => decide); (case kB => exact locs rfl); (case c2 => exact rfl); (case c3 => exact rfl); (case c4 => exact rfl); k_whole; intro g' L' h' FG' F' N' B' X' T'; (try dsimp only); (try k_lift B'); (try k_fold)))
local macro_rules | `(tactic| walk_at "enterC") => `(tactic| k_dflt (refine' code_defC ?k1 ?k2 ?k3 ?k4 ?k5 ?kA ?kF ?kK ?k6 ?k7 ?k8 ?k9 ?kB ?kD ?_ ?c2 ?c3 ?c4; (case kA => exact rfl); (case kF => exact rfl); (case kK => assumption); (case k1 => k_asm); (case k2 => k_asm); (case k3 => k_asm); (case k4 => k_asm); (case k5 => k_asm); (case k6 => k_is); (case k7 => k_is); (case k8 => k_room); (case k9 => exact BindsTo.of_eq rfl); (case kB => exact rfl); (case kD => decide +kernel); (case c2 => exact rfl); (case c3 => exact rfl); (case c4 => exact rfl); k_whole; intro g' L' h' tk' cells' FG' F' N' Y' B' X' T' l1; (try k_lt l1); k_cells Y'; (try simp only [List.cons_append, List.nil_append] at N'); (try dsimp only); (try k_lift B'); (try k_fold)))
section
/-- an operand's datum -/
inductive Op where
  | lit (i : Int)
  | var (x : Str)
  | lab (x : Str)

noncomputable abbrev LZ : List Str := looseW hd.view_39 [Str.ofString "IROperand", Str.ofString "IRVariable", Str.ofString "IRLabel", Str.ofString "StackModel"]

abbrev ent (w : World) (k : Str) (t : Tok) (v : Value) : DictEntry := ⟨PyData.keyHash w.params k, .str k t, v⟩

/-- the ledger bears the operand at the value -/
inductive OpIn (w : World) (news : List (Addr × Obj)) : Value → Op → Prop where
  | lit {x d : Addr} {i : Int} {t t1 t2 : Tok} : (x, instObj 97 d) ∈ news → (d, dictOf [ent w "value" t1 (.int i t), ent w "_hash" t2 .none] 2) ∈ news → OpIn w news (.ref x) (.lit i)
  | var {x d : Addr} {i : Str} {t t1 t2 : Tok} : (x, instObj 126 d) ∈ news → (d, dictOf [ent w "value" t1 (.str i t), ent w "_hash" t2 .none] 2) ∈ news → OpIn w news (.ref x) (.var i)
  | lab {x d : Addr} {i : Str} {t t0 t1 t2 : Tok} : (x, instObj 155 d) ∈ news → (d, dictOf [ent w "is_symbol" t0 (.bool false), ent w "value" t1 (.str i t), ent w "_hash" t2 .none] 3) ∈ news → OpIn w news (.ref x) (.lab i)

theorem OpIn.mono {w : World} {news news' : List (Addr × Obj)} {v : Value} {o : Op} (h : OpIn w news v o) (hs : ∀ p ∈ news, p ∈ news') : OpIn w news' v o := by
  cases h with
  | lit a b => exact .lit (hs _ a) (hs _ b)
  | var a b => exact .var (hs _ a) (hs _ b)
  | lab a b => exact .lab (hs _ a) (hs _ b)

/-- its shown text is short -/
def Op.small : Op → Prop
  | .lit i => 0 ≤ i ∧ i < 4
  | .var x => x = Str.ofString "%x" ∨ x = Str.ofString "%y" ∨ x = Str.ofString "%z" ∨ x = Str.ofString "%w"
  | .lab x => x = Str.ofString "l0" ∨ x = Str.ofString "%x"
/-- a goal that the walk leaves to the hand -/
def Held (P : Prop) : Prop := P
theorem held {P : Prop} (h : Held P) : P := h
theorem news_pair {h₀ h : Heap} {L x d : Addr} {ox od : Obj} {all news : List (Addr × Obj)} (N : News h₀ L h all) (hx : (x, ox) ∈ all) (hd : (d, od) ∈ all) (hs : ∀ p ∈ news, p ∈ all) : News h₀ L h ([(x, ox), (d, od)] ++ news) := by
  intro p hp
  rcases List.mem_cons.mp hp with rfl | hp
  · exact N _ hx
  · rcases List.mem_cons.mp hp with rfl | hp
    · exact N _ hd
    · exact N _ (hs _ hp)
theorem lt_pair {x d : Addr} {ox od : Obj} {news : List (Addr × Obj)} (h1 : ∀ p ∈ news, p.1 < d) (h2 : d < x) : ∀ p ∈ news, ∀ q ∈ [(x, ox), (d, od)], p.1 < q.1 := by
  intro p hp q hq
  rcases List.mem_cons.mp hq with rfl | hq
  · exact Nat.lt_trans (h1 p hp) h2
  · rw [List.mem_singleton.mp hq]; exact h1 p hp
theorem lt_of_all {d : Addr} {l : List (Addr × Obj)} (h : AllLt d l) : ∀ p ∈ l, p.1 < d := tb_ltOf h

inductive OpsIn (w : World) (news : List (Addr × Obj)) : List Value → List Op → Prop where
  | nil : OpsIn w news [] []
  | cons {v : Value} {o : Op} {vs : List Value} {os : List Op} : OpIn w news v o → OpsIn w news vs os → OpsIn w news (v :: vs) (o :: os)

theorem OpsIn.mono {w : World} {news news' : List (Addr × Obj)} {vs : List Value} {os : List Op} (h : OpsIn w news vs os) (hs : ∀ p ∈ news, p ∈ news') : OpsIn w news' vs os := by
  induction h with
  | nil => exact .nil
  | cons a _ ih => exact .cons (a.mono hs) ih
theorem OpsIn.length {w : World} {news : List (Addr × Obj)} {vs : List Value} {os : List Op} (h : OpsIn w news vs os) : vs.length = os.length := by
  induction h with
  | nil => rfl
  | cons _ _ ih => simp [ih]
theorem OpsIn.append {w : World} {news : List (Addr × Obj)} {vs vs' : List Value} {os os' : List Op} (h : OpsIn w news vs os) (h' : OpsIn w news vs' os') : OpsIn w news (vs ++ vs') (os ++ os') := by
  induction h with
  | nil => exact h'
  | cons a _ ih => exact .cons a ih
theorem OpsIn.get {w : World} {news : List (Addr × Obj)} {vs : List Value} {os : List Op} (h : OpsIn w news vs os) : ∀ j, j < vs.length → ∃ o, os[j]? = some o ∧ OpIn w news (vs.getD j .none) o := by
  induction h with
  | nil => intro j hj; exact absurd hj (Nat.not_lt_zero _)
  | cons a _ ih =>
    intro j hj
    cases j with
    | zero => exact ⟨_, rfl, a⟩
    | succ j => exact ih j (Nat.lt_of_succ_lt_succ hj)
theorem OpsIn.rev_get {w : World} {news : List (Addr × Obj)} {vs : List Value} {os : List Op} (h : OpsIn w news vs os) {i : Nat} (hi : i < vs.length) : ∃ o, os.reverse[i]? = some o ∧ OpIn w news (vs.getD (vs.length - 1 - i) .none) o := by
  obtain ⟨o, h1, h2⟩ := h.get (vs.length - 1 - i) (by omega)
  refine ⟨o, ?_, h2⟩
  rw [List.getElem?_reverse (by rw [← h.length]; exact hi), ← h.length]
  exact h1
theorem OpsIn.take {w : World} {news : List (Addr × Obj)} {vs : List Value} {os : List Op} (h : OpsIn w news vs os) : ∀ j, OpsIn w news (vs.take j) (os.take j) := by
  induction h with
  | nil => intro j; simpa using OpsIn.nil
  | cons a _ ih =>
    intro j
    cases j with
    | zero => exact .nil
    | succ j => exact .cons a (ih j)
theorem OpsIn.drop {w : World} {news : List (Addr × Obj)} {vs : List Value} {os : List Op} (h : OpsIn w news vs os) : ∀ j, OpsIn w news (vs.drop j) (os.drop j) := by
  induction h with
  | nil => intro j; simpa using OpsIn.nil
  | cons a r ih =>
    intro j
    cases j with
    | zero => exact .cons a r
    | succ j => exact ih j
theorem OpsIn.set {w : World} {news : List (Addr × Obj)} {vs : List Value} {os : List Op} {v : Value} {o : Op} (h : OpsIn w news vs os) (hv : OpIn w news v o) : ∀ j, OpsIn w news (vs.set j v) (os.set j o) := by
  induction h with
  | nil => intro j; exact .nil
  | cons a r ih =>
    intro j
    cases j with
    | zero => exact .cons hv r
    | succ j => exact .cons a (ih j)

/-- a model object: its dict, its list -/
structure ModelAt (w : World) (news : List (Addr × Obj)) (M D S : Addr) : Prop where
  inst : (M, instObj 254 D) ∈ news
  dict : ∃ t, (D, dictOf [ent w "_stack" t (.ref S)] 1) ∈ news

/-- what a caller's frame lays before a call -/
structure Cx (w : World) (A₀ : Around) (base h₀ : Heap) (outer : List Env) (L : Addr) (m : Str → Option Value) (news : List (Addr × Obj)) (h : Heap) (mean : ExcName → Option Value) (mg mb : Str → Option Value) : Prop where
  B : Below A₀ base outer h₀
  F : Fr h₀ L h m
  X : (hd.heap_39 w.params).In h₀
  N : News h₀ L h news
  T : Top hd.view_39 LZ mean mg mb h₀
-- <mac>
local macro_rules | `(tactic| walk_at "cx") => `(tactic| (refine' Cx.mk ?cB ?cF ?cX ?cN ?cT; (case cB => k_asm); (case cF => k_asm); (case cX => k_asm); (case cN => k_asm); (case cT => k_asm)))
local macro_rules | `(tactic| walk_at "modelat") => `(tactic| first | with_reducible assumption | (refine' ModelAt.mk ?mI ⟨_, ?mD⟩; (case mI => k_mem); (case mD => k_mem)))
local macro_rules | `(tactic| walk_at "room") => `(tactic| ((try simp only [depth_under_make, depth_under_kw, depth_in1, depth_deeper, depth_caller, units_in1, units_deeper, Around.mark_units, units_caller]); (try dsimp only [ktrTop]); omega))
local macro_rules | `(tactic| walk_at "opin") => `(tactic| first | with_reducible assumption | (first | refine' OpIn.lit ?oI ?oD | refine' OpIn.var ?oI ?oD | refine' OpIn.lab ?oI ?oD) <;> k_mem)
-- </mac>
end
local macro_rules | `(tactic| walk_at "cx") => `(tactic| (refine' Cx.mk ?cB ?cF ?cX ?cN ?cT; (case cB => k_asm); (case cF => k_asm); (case cX => k_asm); (case cN => k_asm); (case cT => k_asm)))
local macro_rules | `(tactic| walk_at "modelat") => `(tactic| first | with_reducible assumption | (refine' ModelAt.mk ?mI ⟨_, ?mD⟩; (case mI => k_mem); (case mD => k_mem)))
local macro_rules | `(tactic| walk_at "room") => `(tactic| ((try simp only [depth_under_make, depth_under_kw, depth_in1, depth_deeper, depth_caller, units_in1, units_deeper, Around.mark_units, units_caller]); (try dsimp only [ktrTop]); omega))
local macro_rules | `(tactic| walk_at "opin") => `(tactic| first | with_reducible assumption | (first | refine' OpIn.lit ?oI ?oD | refine' OpIn.var ?oI ?oD | refine' OpIn.lab ?oI ?oD) <;> k_mem)
local macro_rules | `(tactic| walk_at "zz") => `(tactic| skip)
local macro_rules | `(tactic| walk_at "zz") => `(tactic| skip)
local macro_rules | `(tactic| walk_at "zz") => `(tactic| skip)
local macro_rules | `(tactic| walk_at "zz") => `(tactic| skip)
local macro_rules | `(tactic| walk_at "zz") => `(tactic| skip)
theorem filled_R : ∀ (w : World) (h : Heap), (hd.heap_39 w.params).In h → PySem.Challenge.rw_bq0029_01.wellSaid = true → True := by
  k_fill
  w_top off
  intros; trivial
section
section
variable {prog : Program} {w : World} {A : Around} {E : Value → Shared → Prop} {s : Shared} {h₀ : Heap} {L : Addr} {m : Str → Option Value} {news news' : List (Addr × Obj)} {l : Addr} {vs : List Value} {n : Nat} {k : Int} {t u : Tok}
theorem getD_some {j : Nat} (h : j < vs.length) : vs.toArray[j]? = some (vs.getD j .none) := by
  simp [List.getD, h]
theorem lsub_neg {value slice : PySem.Expr} {Q : Value → Shared → Prop} (N : News h₀ L s.heap news) (hm : (l, listOf vs.toArray n) ∈ news) (h0 : k < 0) (h1 : -(vs.length : Int) ≤ k) (hz : vs.length ≤ 1000)
    (h : Q (vs.getD (k + vs.length).toNat .none) s)
    (hs : subscripted slice false (.ref l) (.int k u) = operate [.ref l, .int k u] (getItem (.ref l) (.int k u)) := by with_unfolding_all rfl) :
    wpAny (model prog w) A (subscriptTail value slice (.ref l) (.int k u)) Q E s :=
  have hl : s.heap.IsList l vs.toArray := PySem.IsL.isList (n := n) (N _ hm).1
  tail_any hl.typeIs slot_list_getitem.lookup (wpAny_getItem_list_neg hl h0 (by rw [List.size_toArray]; exact h1) (by omega) (by rw [List.size_toArray]; exact getD_some (by omega)) h) hs
theorem lsub_pos {value slice : PySem.Expr} {Q : Value → Shared → Prop} (N : News h₀ L s.heap news) (hm : (l, listOf vs.toArray n) ∈ news) (h0 : 0 ≤ k) (h1 : k < (vs.length : Int)) (hz : vs.length ≤ 1000)
    (h : Q (vs.getD k.toNat .none) s)
    (hs : subscripted slice false (.ref l) (.int k u) = operate [.ref l, .int k u] (getItem (.ref l) (.int k u)) := by with_unfolding_all rfl) :
    wpAny (model prog w) A (subscriptTail value slice (.ref l) (.int k u)) Q E s :=
  have hl : s.heap.IsList l vs.toArray := PySem.IsL.isList (n := n) (N _ hm).1
  tail_any hl.typeIs slot_list_getitem.lookup (wpAny_getItem_list hl h0 (by omega) (getD_some (by omega)) h) hs
theorem lset_pos {v : Value} {Q : Unit → Shared → Prop} (F : Fr h₀ L s.heap m) (N : News h₀ L s.heap news) (U : Upd l (listOf vs.toArray n) (listOf (vs.set k.toNat v).toArray n) news news') (hlo : 0 ≤ k) (hhi : k < (vs.length : Int)) (hz : vs.length ≤ 1000)
    (h : ∀ h', Fr h₀ L h' m → News h₀ L h' news' → Q () { s with heap := h' }) : wpAny (model prog w) A (setItem (.ref l) (.int k t) v) Q E s := by
  obtain ⟨pre, post, rfl, rfl, a, b⟩ := U.split
  have z := N (l, listOf vs.toArray n) (List.mem_append.mpr (.inr (.head _)))
  refine ki_setAt z.1 hlo (by omega) (by rw [List.size_toArray]; exact hhi) (h _ (F.change (Heap.SameBut.update ..) z.2.1 z.2.2) (ki_turn _ N a b ?_ ?_))
  · show vs.toArray.setIfInBounds k.toNat v = (vs.set k.toNat v).toArray
    apply Array.toList_inj.mp
    simp
  · simp
theorem lset_neg {v : Value} {Q : Unit → Shared → Prop} (F : Fr h₀ L s.heap m) (N : News h₀ L s.heap news) (U : Upd l (listOf vs.toArray n) (listOf (vs.set (k + vs.length).toNat v).toArray n) news news') (hhi : k < 0) (hlo : -(vs.length : Int) ≤ k) (hz : vs.length ≤ 1000)
    (h : ∀ h', Fr h₀ L h' m → News h₀ L h' news' → Q () { s with heap := h' }) : wpAny (model prog w) A (setItem (.ref l) (.int k t) v) Q E s := by
  obtain ⟨pre, post, rfl, rfl, a, b⟩ := U.split
  have z := N (l, listOf vs.toArray n) (List.mem_append.mpr (.inr (.head _)))
  refine ki_setBack z.1 hhi (by rw [List.size_toArray]; exact hlo) (by omega) (h _ (F.change (Heap.SameBut.update ..) z.2.1 z.2.2) (ki_turn _ N a b ?_ ?_))
  · show vs.toArray.setIfInBounds (k + vs.toArray.size).toNat v = (vs.set (k + vs.length).toNat v).toArray
    rw [List.size_toArray]
    apply Array.toList_inj.mp
    simp
  · simp
theorem lsub_two {v0 v1 : Value} {value slice : PySem.Expr} {Q : Value → Shared → Prop} (N : News h₀ L s.heap news) (hm : (l, listOf [v0, v1].toArray n) ∈ news) (h0 : 0 ≤ k) (h1 : k < 2) 
    (ha : k = 0 → Q v0 s) (hb : k = 1 → Q v1 s)
    (hs : subscripted slice false (.ref l) (.int k u) = operate [.ref l, .int k u] (getItem (.ref l) (.int k u)) := by with_unfolding_all rfl) :
    wpAny (model prog w) A (subscriptTail value slice (.ref l) (.int k u)) Q E s := by
  refine lsub_pos N hm h0 (by simpa using h1) (by simp) ?_ hs
  rcases (by omega : k = 0 ∨ k = 1) with rfl | rfl
  · exact ha rfl
  · exact hb rfl
end
-- <mac>
local macro_rules | `(tactic| walk_at "subscriptTail") => `(tactic| (k_here; (with_reducible show wpAny _ _ (subscriptTail _ _ (Value.ref _) (Value.int (Int.fmod _ 2) _)) _ _ _); k_dflt (refine' lsub_two ?k1 ?k2 ?k3 ?k4 ?_ ?_ ?k6; (case k1 => k_asm); (case k2 => k_mem); (case k3 => exact fmod_lo _ (by decide)); (case k4 => exact fmod_hi _ (by decide)); (case k6 => with_unfolding_all rfl)); all_goals intro hix))
local macro_rules | `(tactic| walk_at "subscriptTail") => `(tactic| (k_here; (with_reducible show wpAny _ _ (subscriptTail _ _ (Value.ref _) (Value.int _ _)) _ _ _); k_dflt (first
  | (refine' lsub_neg ?k1 ?k2 ?k3 ?k4 ?k5 ?_ ?k6; (case k1 => k_asm); (case k2 => k_mem); (case k3 => omega); (case k4 => omega); (case k5 => omega); (case k6 => with_unfolding_all rfl); k_whole)
  | (refine' lsub_pos ?k1 ?k2 ?k3 ?k4 ?k5 ?_ ?k6; (case k1 => k_asm); (case k2 => k_mem); (case k3 => omega); (case k4 => omega); (case k5 => omega); (case k6 => with_unfolding_all rfl); k_whole))))
local macro_rules | `(tactic| walk_at "subscriptTail Name") => `(tactic| (k_here; (with_reducible show wpAny _ _ (subscriptTail _ _ (Value.ref _) (Value.int _ _)) _ _ _); k_dflt (first
  | (refine' lsub_neg ?k1 ?k2 ?k3 ?k4 ?k5 ?_ ?k6; (case k1 => k_asm); (case k2 => k_mem); (case k3 => omega); (case k4 => omega); (case k5 => omega); (case k6 => with_unfolding_all rfl); k_whole)
  | (refine' lsub_pos ?k1 ?k2 ?k3 ?k4 ?k5 ?_ ?k6; (case k1 => k_asm); (case k2 => k_mem); (case k3 => omega); (case k4 => omega); (case k5 => omega); (case k6 => with_unfolding_all rfl); k_whole))))
local macro_rules | `(tactic| walk_at "setItem ref int") => `(tactic| (k_here; (with_reducible show wpAny _ _ (setItem (Value.ref _) (Value.int _ _) _) _ _ _); k_dflt (first
  | (refine' lset_neg ?k1 ?k2 ?k3 ?k4 ?k5 ?k6 ?_; (case k1 => k_asm); (case k2 => k_asm); (case k3 => k_upd); (case k4 => omega); (case k5 => ((try simp only [List.length_set]); omega)); (case k6 => ((try simp only [List.length_set]); omega)); k_whole)
  | (refine' lset_pos ?k1 ?k2 ?k3 ?k4 ?k5 ?k6 ?_; (case k1 => k_asm); (case k2 => k_asm); (case k3 => k_upd); (case k4 => omega); (case k5 => omega); (case k6 => omega); k_whole)); intro h' F' N'; (try k_sweep)))
-- </mac>
end
local macro_rules | `(tactic| walk_at "subscriptTail") => `(tactic| (k_here; (with_reducible show wpAny _ _ (subscriptTail _ _ (Value.ref _) (Value.int (Int.fmod _ 2) _)) _ _ _); k_dflt (refine' lsub_two ?k1 ?k2 ?k3 ?k4 ?_ ?_ ?k6; (case k1 => k_asm); (case k2 => k_mem); (case k3 => exact fmod_lo _ (by decide)); (case k4 => exact fmod_hi _ (by decide)); (case k6 => with_unfolding_all rfl)); all_goals intro hix))
local macro_rules | `(tactic| walk_at "subscriptTail") => `(tactic| (k_here; (with_reducible show wpAny _ _ (subscriptTail _ _ (Value.ref _) (Value.int _ _)) _ _ _); k_dflt (first
  | (refine' lsub_neg ?k1 ?k2 ?k3 ?k4 ?k5 ?_ ?k6; (case k1 => k_asm); (case k2 => k_mem); (case k3 => omega); (case k4 => omega); (case k5 => omega); (case k6 => with_unfolding_all rfl); k_whole)
  | (refine' lsub_pos ?k1 ?k2 ?k3 ?k4 ?k5 ?_ ?k6; (case k1 => k_asm); (case k2 => k_mem); (case k3 => omega); (case k4 => omega); (case k5 => omega); (case k6 => with_unfolding_all rfl); k_whole))))
local macro_rules | `(tactic| walk_at "subscriptTail Name") => `(tactic| (k_here; (with_reducible show wpAny _ _ (subscriptTail _ _ (Value.ref _) (Value.int _ _)) _ _ _); k_dflt (first
  | (refine' lsub_neg ?k1 ?k2 ?k3 ?k4 ?k5 ?_ ?k6; (case k1 => k_asm); (case k2 => k_mem); (case k3 => omega); (case k4 => omega); (case k5 => omega); (case k6 => with_unfolding_all rfl); k_whole)
  | (refine' lsub_pos ?k1 ?k2 ?k3 ?k4 ?k5 ?_ ?k6; (case k1 => k_asm); (case k2 => k_mem); (case k3 => omega); (case k4 => omega); (case k5 => omega); (case k6 => with_unfolding_all rfl); k_whole))))
local macro_rules | `(tactic| walk_at "setItem ref int") => `(tactic| (k_here; (with_reducible show wpAny _ _ (setItem (Value.ref _) (Value.int _ _) _) _ _ _); k_dflt (first
  | (refine' lset_neg ?k1 ?k2 ?k3 ?k4 ?k5 ?k6 ?_; (case k1 => k_asm); (case k2 => k_asm); (case k3 => k_upd); (case k4 => omega); (case k5 => ((try simp only [List.length_set]); omega)); (case k6 => ((try simp only [List.length_set]); omega)); k_whole)
  | (refine' lset_pos ?k1 ?k2 ?k3 ?k4 ?k5 ?k6 ?_; (case k1 => k_asm); (case k2 => k_asm); (case k3 => k_upd); (case k4 => omega); (case k5 => omega); (case k6 => omega); k_whole)); intro h' F' N'; (try k_sweep)))
local macro_rules | `(tactic| walk_at "zz") => `(tactic| skip)
local macro_rules | `(tactic| walk_at "zz") => `(tactic| skip)
local macro_rules | `(tactic| walk_at "zz") => `(tactic| skip)
local macro_rules | `(tactic| walk_at "zz") => `(tactic| skip)
local macro_rules | `(tactic| walk_at "zz") => `(tactic| skip)
theorem filled_R2 : ∀ (w : World) (h : Heap), (hd.heap_39 w.params).In h → PySem.Challenge.rw_bq0029_01.wellSaid = true → True := by
  k_fill
  w_top off
  intros; trivial
section
section
variable {prog : Program} {w : World} {A : Around} {E : Value → Shared → Prop} {s : Shared} {h₀ : Heap} {L : Addr} {m : Str → Option Value} {news news' : List (Addr × Obj)} {l b : Addr} {vs ws : List Value} {n n2 : Nat} {k : Int} {t u : Tok}
theorem lcopy {Q : Value → Shared → Prop} (F : Fr h₀ L s.heap m) (N : News h₀ L s.heap news) (hm : (l, listOf vs.toArray n) ∈ news) (hz : vs.length ≤ 1000)
    (h : ∀ D h', Fr h₀ L h' m → News h₀ L h' ((D, listOf vs.toArray 0) :: news) → (∀ p ∈ news, p.1 < D) → Q (.ref D) { s with heap := h' }) : wpAny (model prog w) A (call (.builtin "list.copy") [.ref l]) Q E s :=
  copy_list F N (PySem.IsL.isList (n := n) (N _ hm).1) (fun h' F' N' => h _ h' F' N' fun p hp => Heap.lt_size (N p hp).1) (by rw [sizeLine_eq]; omega)
theorem llen {Q : Value → Shared → Prop} (N : News h₀ L s.heap news) (hm : (l, listOf vs.toArray n) ∈ news) (hz : vs.length ≤ 1000)
    (h : ∀ t tk, Q (.int (vs.length : Int) t) { s with toks := tk }) : wpAny (model prog w) A (call (.builtin "len") [.ref l]) Q E s := by
  refine len_list (PySem.IsL.isList (n := n) (N _ hm).1) (by rw [List.size_toArray]; omega) ?_
  rw [List.size_toArray]
  exact h _ _
theorem ladd {Q : Value → Shared → Prop} (F : Fr h₀ L s.heap m) (N : News h₀ L s.heap news) (hm : (l, listOf vs.toArray n) ∈ news) (hm2 : (b, listOf ws.toArray n2) ∈ news) (hz : vs.length ≤ 1000) (hz2 : ws.length ≤ 1000)
    (h : ∀ D h', Fr h₀ L h' m → News h₀ L h' ((D, listOf (vs ++ ws).toArray 0) :: news) → (∀ p ∈ news, p.1 < D) → Q (.ref D) { s with heap := h' }) : wpAny (model prog w) A (binaryOp .Add (.ref l) (.ref b)) Q E s :=
  add_lists F N (PySem.IsL.isList (n := n) (N _ hm).1) (PySem.IsL.isList (n := n2) (N _ hm2).1) (fun h' F' N' => h _ h' F' N' fun p hp => Heap.lt_size (N p hp).1) (by rw [sizeLine_eq]; omega)
theorem pick_to {y : Int} (h : 0 ≤ y) : slicePick vs.toArray none (some y) none = (vs.take y.toNat).toArray := by
  obtain ⟨j, rfl⟩ := Int.eq_ofNat_of_zero_le h
  rw [slicePick_upto']; rfl
theorem pick_from {y : Int} (h : 0 ≤ y) : slicePick vs.toArray (some y) none none = (vs.drop y.toNat).toArray := by
  obtain ⟨j, rfl⟩ := Int.eq_ofNat_of_zero_le h
  rw [slicePick_from']; rfl
theorem pick_run1 {x : Int} (h : 0 ≤ x) : slicePick vs.toArray (some x) (some (-1)) none = ((vs.drop x.toNat).take (vs.length - 1 - x.toNat)).toArray := by
  have e : sliceBounds (some x) (some (-1)) none vs.toArray.size = (((min x.toNat vs.toArray.size : Nat) : Int), ((vs.toArray.size - 1 : Nat) : Int), 1) := by
    simp only [sliceBounds, Option.getD_none, show (1 : Int) > 0 by decide, if_true, if_neg (show ¬ (x < 0) by omega), if_pos (show (-1 : Int) < 0 by decide)]
    congr 1
    · omega
    · congr 1
      omega
  rw [kmk_pick_nat _ e]
  congr 1
  show ((vs.drop (min x.toNat vs.toArray.size)).take (vs.toArray.size - 1 - min x.toNat vs.toArray.size)) = _
  rw [List.size_toArray, kmk_drop_min]
  congr 1
  omega
variable {value slice : PySem.Expr} {vl vu vk : Value} {lo hi : Option Int} {ops : List Value}
theorem lslice {zs : List Value} {Q : Value → Shared → Prop} (F : Fr h₀ L s.heap m) (N : News h₀ L s.heap news) (hm : (l, listOf vs.toArray n) ∈ news) (pl : IsPart vl lo) (pu : IsPart vu hi) (e : slicePick vs.toArray lo hi none = zs.toArray) (hz : vs.length ≤ 1000)
    (h : ∀ D h', Fr h₀ L h' m → News h₀ L h' ((D, listOf zs.toArray 0) :: news) → (∀ p ∈ news, p.1 < D) → Q (.ref D) { s with heap := h' })
    (hs : subscripted slice false (.ref l) (.ref s.heap.objs.size) = operate [.ref s.heap.objs.size, .ref l] (getItem (.ref l) (.ref s.heap.objs.size))) (ht : ∀ r, letTemporaryGo value (.ref l) r = pure ()) :
    wpAny (model prog w) A (subscriptTail value slice (.ref l) (.ref s.heap.objs.size)) Q E { s with heap := s.heap.push { cls := .type "slice", data := .fields #[vl, vu, .none] } } := by
  refine kmk_slice F N (PySem.IsL.isList (n := n) (N _ hm).1) pl pu (fun D h' F' N' l1 => h D h' F' (e ▸ N') l1) hs ht (by rw [sizeLine_eq, List.size_toArray]; omega)
theorem lrev {Q : Value → Shared → Prop} (F : Fr h₀ L s.heap m) (N : News h₀ L s.heap news) (hm : (l, listOf vs.toArray n) ∈ news) (pk : IsPart vk (some (-1))) (hz : vs.length ≤ 1000)
    (h : ∀ D h', Fr h₀ L h' m → News h₀ L h' ((D, listOf vs.reverse.toArray 0) :: news) → (∀ p ∈ news, p.1 < D) → Q (.ref D) { s with heap := h' })
    (hs : subscripted slice false (.ref l) (.ref s.heap.objs.size) = operate ops (getItem (.ref l) (.ref s.heap.objs.size))) (ht : ∀ r, letTemporaryGo value (.ref l) r = pure ()) :
    wpAny (model prog w) A (subscriptTail value slice (.ref l) (.ref s.heap.objs.size)) Q E { s with heap := s.heap.push { cls := .type "slice", data := .fields #[.none, .none, vk] } } :=
  krv_lit (its := vs.toArray) (zs := vs.reverse) F N (PySem.IsL.isList (n := n) (N _ hm).1) pk rfl h hs ht (by rw [sizeLine_eq, List.size_toArray]; omega)
end
-- <mac>
local macro_rules | `(tactic| walk_at "len_ok") => `(tactic| ((try simp only [List.length_set, List.length_append, List.length_cons, List.length_nil, List.length_take, List.length_drop, List.length_reverse, List.length_map]); omega))
local macro_rules | `(tactic| walk_at "call builtin:list.copy") => `(tactic| (k_here; (with_reducible show wpAny _ _ (call (Value.builtin _) [Value.ref _]) _ _ _); k_dflt (refine' lcopy ?k1 ?k2 ?k3 ?k4 ?_; (case k1 => k_asm); (case k2 => k_asm); (case k3 => k_mem); (case k4 => walk_at "len_ok")); intro D' h' F' N' l1; (try k_lt l1); (try k_sweep)))
local macro_rules | `(tactic| walk_at "call builtin:len") => `(tactic| (k_here; (with_reducible show wpAny _ _ (call (Value.builtin "len") [Value.ref _]) _ _ _); k_dflt (refine' llen ?k2 ?k3 ?k4 ?_; (case k2 => k_asm); (case k3 => k_mem); (case k4 => walk_at "len_ok")); intro t' tk'))
local macro_rules | `(tactic| walk_at "binaryOp Add") => `(tactic| (k_here; (with_reducible show wpAny _ _ (binaryOp _ (Value.ref _) (Value.ref _)) _ _ _); k_dflt (refine' ladd ?k1 ?k2 ?k3 ?k3b ?k4 ?k4b ?_; (case k1 => k_asm); (case k2 => k_asm); (case k3 => k_mem); (case k3b => k_mem); (case k4 => walk_at "len_ok"); (case k4b => walk_at "len_ok")); intro D' h' F' N' l1; (try k_lt l1); (try k_sweep)))
local macro_rules | `(tactic| walk_at "subscriptTail") => `(tactic| (k_here; (with_reducible show wpAny _ _ (subscriptTail _ (PySem.Expr.Slice _ _ _ _) (Value.ref _) (Value.ref _)) _ _ _); k_dflt (first
  | (refine' lslice ?k1 ?k2 ?k3 ?pl ?pu ?e ?k4 ?_ ?s ?t; (case k1 => k_asm); (case k2 => k_asm); (case k3 => k_mem); (case pl => exact IsPart.none); (case pu => exact IsPart.int _ _); (case e => exact pick_to (by walk_at "len_ok")); (case k4 => walk_at "len_ok"); (case s => with_unfolding_all rfl); (case t => intro _; with_unfolding_all rfl))
  | (refine' lslice ?k1 ?k2 ?k3 ?pl ?pu ?e ?k4 ?_ ?s ?t; (case k1 => k_asm); (case k2 => k_asm); (case k3 => k_mem); (case pl => exact IsPart.int _ _); (case pu => exact IsPart.none); (case e => exact pick_from (by walk_at "len_ok")); (case k4 => walk_at "len_ok"); (case s => with_unfolding_all rfl); (case t => intro _; with_unfolding_all rfl))
  | (refine' lslice ?k1 ?k2 ?k3 ?pl ?pu ?e ?k4 ?_ ?s ?t; (case k1 => k_asm); (case k2 => k_asm); (case k3 => k_mem); (case pl => exact IsPart.int _ _); (case pu => exact IsPart.int _ _); (case e => exact pick_run1 (by walk_at "len_ok")); (case k4 => walk_at "len_ok"); (case s => with_unfolding_all rfl); (case t => intro _; with_unfolding_all rfl))
  | (refine' lrev ?k1 ?k2 ?k3 ?pk ?k4 ?_ ?s ?t; (case k1 => k_asm); (case k2 => k_asm); (case k3 => k_mem); (case pk => exact IsPart.int _ _); (case k4 => walk_at "len_ok"); (case s => with_unfolding_all rfl); (case t => intro _; with_unfolding_all rfl))); intro D' h' F' N' l1; (try k_lt l1); (try k_sweep)))
local macro_rules | `(tactic| walk_at "subscriptTail Name Slice ref ref") => `(tactic| (k_here; (with_reducible show wpAny _ _ (subscriptTail _ (PySem.Expr.Slice _ _ _ _) (Value.ref _) (Value.ref _)) _ _ _); k_dflt (first
  | (refine' lslice ?k1 ?k2 ?k3 ?pl ?pu ?e ?k4 ?_ ?s ?t; (case k1 => k_asm); (case k2 => k_asm); (case k3 => k_mem); (case pl => exact IsPart.none); (case pu => exact IsPart.int _ _); (case e => exact pick_to (by walk_at "len_ok")); (case k4 => walk_at "len_ok"); (case s => with_unfolding_all rfl); (case t => intro _; with_unfolding_all rfl))
  | (refine' lslice ?k1 ?k2 ?k3 ?pl ?pu ?e ?k4 ?_ ?s ?t; (case k1 => k_asm); (case k2 => k_asm); (case k3 => k_mem); (case pl => exact IsPart.int _ _); (case pu => exact IsPart.none); (case e => exact pick_from (by walk_at "len_ok")); (case k4 => walk_at "len_ok"); (case s => with_unfolding_all rfl); (case t => intro _; with_unfolding_all rfl))
  | (refine' lslice ?k1 ?k2 ?k3 ?pl ?pu ?e ?k4 ?_ ?s ?t; (case k1 => k_asm); (case k2 => k_asm); (case k3 => k_mem); (case pl => exact IsPart.int _ _); (case pu => exact IsPart.int _ _); (case e => exact pick_run1 (by walk_at "len_ok")); (case k4 => walk_at "len_ok"); (case s => with_unfolding_all rfl); (case t => intro _; with_unfolding_all rfl))
  | (refine' lrev ?k1 ?k2 ?k3 ?pk ?k4 ?_ ?s ?t; (case k1 => k_asm); (case k2 => k_asm); (case k3 => k_mem); (case pk => exact IsPart.int _ _); (case k4 => walk_at "len_ok"); (case s => with_unfolding_all rfl); (case t => intro _; with_unfolding_all rfl))); intro D' h' F' N' l1; (try k_lt l1); (try k_sweep)))
-- </mac>
end
local macro_rules | `(tactic| walk_at "len_ok") => `(tactic| ((try simp only [List.length_set, List.length_append, List.length_cons, List.length_nil, List.length_take, List.length_drop, List.length_reverse, List.length_map]); omega))
local macro_rules | `(tactic| walk_at "call builtin:list.copy") => `(tactic| (k_here; (with_reducible show wpAny _ _ (call (Value.builtin _) [Value.ref _]) _ _ _); k_dflt (refine' lcopy ?k1 ?k2 ?k3 ?k4 ?_; (case k1 => k_asm); (case k2 => k_asm); (case k3 => k_mem); (case k4 => walk_at "len_ok")); intro D' h' F' N' l1; (try k_lt l1); (try k_sweep)))
local macro_rules | `(tactic| walk_at "call builtin:len") => `(tactic| (k_here; (with_reducible show wpAny _ _ (call (Value.builtin "len") [Value.ref _]) _ _ _); k_dflt (refine' llen ?k2 ?k3 ?k4 ?_; (case k2 => k_asm); (case k3 => k_mem); (case k4 => walk_at "len_ok")); intro t' tk'))
local macro_rules | `(tactic| walk_at "binaryOp Add") => `(tactic| (k_here; (with_reducible show wpAny _ _ (binaryOp _ (Value.ref _) (Value.ref _)) _ _ _); k_dflt (refine' ladd ?k1 ?k2 ?k3 ?k3b ?k4 ?k4b ?_; (case k1 => k_asm); (case k2 => k_asm); (case k3 => k_mem); (case k3b => k_mem); (case k4 => walk_at "len_ok"); (case k4b => walk_at "len_ok")); intro D' h' F' N' l1; (try k_lt l1); (try k_sweep)))
local macro_rules | `(tactic| walk_at "subscriptTail") => `(tactic| (k_here; (with_reducible show wpAny _ _ (subscriptTail _ (PySem.Expr.Slice _ _ _ _) (Value.ref _) (Value.ref _)) _ _ _); k_dflt (first
  | (refine' lslice ?k1 ?k2 ?k3 ?pl ?pu ?e ?k4 ?_ ?s ?t; (case k1 => k_asm); (case k2 => k_asm); (case k3 => k_mem); (case pl => exact IsPart.none); (case pu => exact IsPart.int _ _); (case e => exact pick_to (by walk_at "len_ok")); (case k4 => walk_at "len_ok"); (case s => with_unfolding_all rfl); (case t => intro _; with_unfolding_all rfl))
  | (refine' lslice ?k1 ?k2 ?k3 ?pl ?pu ?e ?k4 ?_ ?s ?t; (case k1 => k_asm); (case k2 => k_asm); (case k3 => k_mem); (case pl => exact IsPart.int _ _); (case pu => exact IsPart.none); (case e => exact pick_from (by walk_at "len_ok")); (case k4 => walk_at "len_ok"); (case s => with_unfolding_all rfl); (case t => intro _; with_unfolding_all rfl))
  | (refine' lslice ?k1 ?k2 ?k3 ?pl ?pu ?e ?k4 ?_ ?s ?t; (case k1 => k_asm); (case k2 => k_asm); (case k3 => k_mem); (case pl => exact IsPart.int _ _); (case pu => exact IsPart.int _ _); (case e => exact pick_run1 (by walk_at "len_ok")); (case k4 => walk_at "len_ok"); (case s => with_unfolding_all rfl); (case t => intro _; with_unfolding_all rfl))
  | (refine' lrev ?k1 ?k2 ?k3 ?pk ?k4 ?_ ?s ?t; (case k1 => k_asm); (case k2 => k_asm); (case k3 => k_mem); (case pk => exact IsPart.int _ _); (case k4 => walk_at "len_ok"); (case s => with_unfolding_all rfl); (case t => intro _; with_unfolding_all rfl))); intro D' h' F' N' l1; (try k_lt l1); (try k_sweep)))
local macro_rules | `(tactic| walk_at "subscriptTail Name Slice ref ref") => `(tactic| (k_here; (with_reducible show wpAny _ _ (subscriptTail _ (PySem.Expr.Slice _ _ _ _) (Value.ref _) (Value.ref _)) _ _ _); k_dflt (first
  | (refine' lslice ?k1 ?k2 ?k3 ?pl ?pu ?e ?k4 ?_ ?s ?t; (case k1 => k_asm); (case k2 => k_asm); (case k3 => k_mem); (case pl => exact IsPart.none); (case pu => exact IsPart.int _ _); (case e => exact pick_to (by walk_at "len_ok")); (case k4 => walk_at "len_ok"); (case s => with_unfolding_all rfl); (case t => intro _; with_unfolding_all rfl))
  | (refine' lslice ?k1 ?k2 ?k3 ?pl ?pu ?e ?k4 ?_ ?s ?t; (case k1 => k_asm); (case k2 => k_asm); (case k3 => k_mem); (case pl => exact IsPart.int _ _); (case pu => exact IsPart.none); (case e => exact pick_from (by walk_at "len_ok")); (case k4 => walk_at "len_ok"); (case s => with_unfolding_all rfl); (case t => intro _; with_unfolding_all rfl))
  | (refine' lslice ?k1 ?k2 ?k3 ?pl ?pu ?e ?k4 ?_ ?s ?t; (case k1 => k_asm); (case k2 => k_asm); (case k3 => k_mem); (case pl => exact IsPart.int _ _); (case pu => exact IsPart.int _ _); (case e => exact pick_run1 (by walk_at "len_ok")); (case k4 => walk_at "len_ok"); (case s => with_unfolding_all rfl); (case t => intro _; with_unfolding_all rfl))
  | (refine' lrev ?k1 ?k2 ?k3 ?pk ?k4 ?_ ?s ?t; (case k1 => k_asm); (case k2 => k_asm); (case k3 => k_mem); (case pk => exact IsPart.int _ _); (case k4 => walk_at "len_ok"); (case s => with_unfolding_all rfl); (case t => intro _; with_unfolding_all rfl))); intro D' h' F' N' l1; (try k_lt l1); (try k_sweep)))
local macro_rules | `(tactic| walk_at "zz") => `(tactic| skip)
local macro_rules | `(tactic| walk_at "zz") => `(tactic| skip)
local macro_rules | `(tactic| walk_at "zz") => `(tactic| skip)
local macro_rules | `(tactic| walk_at "zz") => `(tactic| skip)
local macro_rules | `(tactic| walk_at "zz") => `(tactic| skip)
local macro_rules | `(tactic| walk_at "zz") => `(tactic| skip)
local macro_rules | `(tactic| walk_at "zz") => `(tactic| skip)
theorem filled_R3 : ∀ (w : World) (h : Heap), (hd.heap_39 w.params).In h → PySem.Challenge.rw_bq0029_01.wellSaid = true → True := by
  k_fill
  w_top off
  intros; trivial
section
section
theorem del_keep_from (p : Nat → Bool) (y : Nat) : ∀ (vs : List Value) (i : Nat), (∀ k, k < i + vs.length → p k = decide (y ≤ k)) → ((vs.zipIdx i).filterMap fun (x, k) => if p k then none else some x) = vs.take (y - i)
  | [], i, _ => by simp
  | v :: r, i, hp => by
    have h0 := hp i (by simp)
    have ih := del_keep_from p y r (i + 1) (fun k hk => hp k (by simp only [List.length_cons]; omega))
    rw [List.zipIdx_cons, List.filterMap_cons]
    dsimp only
    by_cases hy : y ≤ i
    · rw [h0, if_pos (decide_eq_true hy), ih, show y - (i + 1) = 0 by omega, show y - i = 0 by omega]
      simp
    · rw [h0, if_neg (by simpa using hy), ih, show y - i = (y - (i + 1)) + 1 by omega]
      simp
variable {prog : Program} {w : World} {A : Around} {E : Value → Shared → Prop} {s : Shared} {h₀ : Heap} {L : Addr} {m : Str → Option Value} {news news' : List (Addr × Obj)} {l b : Addr} {vs ws : List Value} {n n2 : Nat} {k : Int} {t u : Tok}
theorem ldel_run {sl : Addr} {y : Int} {Q : Unit → Shared → Prop} (ho : s.heap.get? l = some (listOf vs.toArray n)) (hs : s.heap.IsSliceOf sl (.int y t) .none .none) (h0 : 0 ≤ y) (h1 : y ≤ (vs.length : Int)) (hz : vs.length ≤ 1000)
    (h : ∀ f : Array Value → Array Value, f vs.toArray = (vs.take y.toNat).toArray → Q () { s with heap := s.heap.update l (Obj.mapSeq f) }) : wpAny (model prog w) A (delItem (.ref l) (.ref sl)) Q E s := by
  have hl : s.heap.IsList l vs.toArray := PySem.IsL.isList (n := n) ho
  obtain ⟨os, hos, hcs, hds⟩ := id hs
  have hTs : s.TypeIs (.ref sl) "slice" := ⟨os, hos, hcs⟩
  refine wpAny_delItem_slot hl.typeIs (by decide) F.slot_list_delitem (wpAny_call_entry F.slot_list_delitem hl.typeIs F.entry_list_delitem ?_ (F.args_list_delitem_2 _ _))
  unfold Builtin.«list.__delitem__»
  refine wpAny_bind (wpAny_of_eq (a := (Value.ref l, [Value.ref sl])) rfl ?_)
  dsimp only
  refine wpAny_bind ?_
  unfold Builtin.List.listSubscript?
  refine wpAny_bind (wpAny_specialOf hTs slice_no_index ?_)
  simp only [Option.isNone_none, if_true]
  refine wpAny_pure ?_
  dsimp only
  refine wpAny_bind (wpAny_typeOf hTs ?_)
  rw [if_neg (by decide)]
  rw [listSliceParts_eq]
  refine wpAny_bind (wpAny_bind (wpAny_field hos hds (x := .none) rfl (wpAny_bind (wpAny_listPart .none ?_))))
  rw [if_neg (by exact Bool.false_ne_true)]
  refine wpAny_bind (wpAny_field hos hds (x := .int y t) rfl (wpAny_bind (wpAny_listPart (.int y t) ?_)))
  refine wpAny_bind (wpAny_field hos hds (x := .none) rfl (wpAny_bind (wpAny_listPart .none (wpAny_pure ?_))))
  refine wpAny_bind (m := Builtin.List.listItems (.ref l)) ?_
  unfold Builtin.List.listItems
  refine wpAny_bind (wpAny_seqItems ho rfl (wpAny_pure ?_))
  refine wpAny_bind (wpAny_of_eq (sliceIndices_raw (some y) none none vs.toArray.size (by intro q; cases q)) ?_)
  have e : sliceBounds (some y) none none vs.toArray.size = (y, (vs.length : Int), 1) := by
    simp only [sliceBounds, Option.getD_none, show (1 : Int) > 0 by decide, if_true, if_neg (show ¬ (y < 0) by omega), List.size_toArray]
    congr 1
    omega
  rw [e]
  dsimp only
  refine wpAny_bind (wpAny_rule ?_)
  refine wpAny_bind (m := Builtin.List.listUpdate (.ref l) _) ?_
  show wpAny _ _ (updateSeq l _) _ _ _
  have key : ∀ (p : Nat → Bool), (∀ k, p k = (decide (y ≤ (k : Int)) && decide ((k : Int) < (vs.length : Int)))) → ((vs.toArray.toList.zipIdx.filterMap fun (x, k) => if p k then none else some x).toArray) = (vs.take y.toNat).toArray := by
    intro p hp
    have := del_keep_from p y.toNat vs 0 (fun k hk => by
      rw [hp k]
      by_cases q : y ≤ (k : Int)
      · rw [decide_eq_true q, decide_eq_true (show (k : Int) < vs.length by omega), decide_eq_true (show y.toNat ≤ k by omega)]; rfl
      · rw [decide_eq_false q, decide_eq_false (show ¬ y.toNat ≤ k by omega)]; rfl)
    rw [Nat.sub_zero] at this
    exact congrArg List.toArray this
  refine wpAny_updateSeq ho rfl ?_ (by rw [sizeLine_eq, List.size_toArray]; omega) ?_
  · refine wpAny_bind (wpAny_letGo ?_)
    refine wpAny_pure ⟨_, rfl, ?_⟩
    refine h _ (key _ ?_)
    intro k
    show _ = _
    k_delta "selects"
    simp
  · refine Nat.le_trans (Nat.le_of_eq (congrArg Array.size (key _ ?_))) ?_
    · intro k
      show _ = _
      k_delta "selects"
      simp
    · rw [sizeLine_eq, List.size_toArray, List.length_take]; omega
/-- del xs[y:] on the ledger -/
theorem ldel {y : Int} {Q : Unit → Shared → Prop} (F : Fr h₀ L s.heap m) (N : News h₀ L s.heap ((l, listOf vs.toArray n) :: news)) (hoff : ∀ p ∈ news, p.1 ≠ l) (h0 : 0 ≤ y) (h1 : y ≤ (vs.length : Int)) (hz : vs.length ≤ 1000)
    (h : ∀ n' h', Fr h₀ L h' m → News h₀ L h' ((l, listOf (vs.take y.toNat).toArray n') :: news) → Q () { s with heap := h' }) :
    wpAny (model prog w) A (delItem (.ref l) (.ref s.heap.objs.size)) Q E { s with heap := s.heap.push { cls := .type "slice", data := .fields #[.int y t, .none, .none] } } := by
  have z := N (l, listOf vs.toArray n) List.mem_cons_self
  have N' : News h₀ L (s.heap.push { cls := .type "slice", data := .fields #[.int y t, .none, .none] }) ((l, listOf vs.toArray n) :: news) := fun p hp => ⟨Heap.get?_push_of_some _ (N p hp).1, (N p hp).2⟩
  refine ldel_run (s := { s with heap := _ }) (n := n) (vs := vs) (Heap.get?_push_of_some _ z.1) (Heap.IsSliceOf.new _ _ _ _) h0 h1 hz (fun f hf => ?_)
  refine h (if (f vs.toArray).size == vs.toArray.size then n else n + 1) _ ((F.push _).change (Heap.SameBut.update ..) z.2.1 z.2.2) ?_
  exact ki_turn (pre := []) f N' (fun _ hp => nomatch hp) hoff hf (by rw [← hf])
end
-- <mac>
local macro_rules | `(tactic| walk_at "delItem ref ref") => `(tactic| (k_here; k_dflt (refine' ldel ?k1 ?k2 ?k3 ?k4 ?k5 ?k6 ?_; (case k1 => k_asm); (case k2 => k_asm); (case k3 => assumption); (case k4 => walk_at "len_ok"); (case k5 => walk_at "len_ok"); (case k6 => walk_at "len_ok")); intro n' h' F' N'; (try k_sweep)))
-- </mac>
end
local macro_rules | `(tactic| walk_at "delItem ref ref") => `(tactic| (k_here; k_dflt (refine' ldel ?k1 ?k2 ?k3 ?k4 ?k5 ?k6 ?_; (case k1 => k_asm); (case k2 => k_asm); (case k3 => assumption); (case k4 => walk_at "len_ok"); (case k5 => walk_at "len_ok"); (case k6 => walk_at "len_ok")); intro n' h' F' N'; (try k_sweep)))
local macro_rules | `(tactic| walk_at "zz") => `(tactic| skip)
local macro_rules | `(tactic| walk_at "zz") => `(tactic| skip)
theorem filled_P1 : ∀ (w : World) (h : Heap), (hd.heap_39 w.params).In h → PySem.Challenge.rw_bq0029_01.wellSaid = true → True := by
  k_fill
  w_top off
  intros; trivial
section
section
variable {w : World} {dp un : Nat} {gd : Option (List Code)} {cn : Str} {cs : Scope} {a : Addr} {ccd : Value} {cl : List (Str × Addr)} {outer : List Env} {A₀ : Around} {base h₀ : Heap} {L : Addr} {m : Str → Option Value} {news news' : List (Addr × Obj)} {s : Shared}
    {mean : ExcName → Option Value} {mg mb : Str → Option Value} {Q E : Value → Shared → Prop}
set_option maxHeartbeats 8000000 in
theorem push_spec {M D S : Addr} {v : Value} {o : Op} {vs : List Value} {n : Nat}
    (C : Cx w A₀ base h₀ outer L m news s.heap mean mg mb) (hk : cs.kind = .function) (hM : ModelAt w news M D S) (hv : OpIn w news v o) (hdp : dp < 900) (hun : un < 1000)
    (U : Upd S (listOf vs.toArray n) (listOf (vs.toArray.push v) (n + 1)) news news') (hsz : vs.length ≤ 100)
    (ret : ∀ h' tk', Fr h₀ L h' m → News h₀ L h' news' → Q .none { s with heap := h', toks := tk' }) :
    wpAny (model PySem.Challenge.rw_bq0029_01.row.prog w) (ktrTop dp un gd cn cs L a ccd cl outer) (call (.ref 194) [.ref M, v]) Q E s := by
  obtain ⟨B, F, X, N, T⟩ := C
  obtain ⟨hi, td, hdd⟩ := hM
  have hS : (S, listOf vs.toArray n) ∈ news := by obtain ⟨_, _, rfl, rfl, _, _⟩ := U.split; simp
  cases hv
  all_goals (
    refine wpAny_call ?_
    k_dflt ktr_enter
    k_steps
    exact ret _ _ (by assumption) (by assumption))
end
end
local macro_rules | `(tactic| walk_at "zz") => `(tactic| skip)
theorem filled_P2 : ∀ (w : World) (h : Heap), (hd.heap_39 w.params).In h → PySem.Challenge.rw_bq0029_01.wellSaid = true → True := by
  k_fill
  w_top off
  intros; trivial
section
section
variable {w : World} {dp un : Nat} {gd : Option (List Code)} {cn : Str} {cs : Scope} {a : Addr} {ccd : Value} {cl : List (Str × Addr)} {outer : List Env} {A₀ : Around} {base h₀ : Heap} {L : Addr} {m : Str → Option Value} {news news' : List (Addr × Obj)} {s : Shared}
    {mean : ExcName → Option Value} {mg mb : Str → Option Value} {Q E : Value → Shared → Prop}
set_option maxHeartbeats 8000000 in
theorem peek_spec {M D S : Addr} {vs : List Value} {n : Nat} {d : Int} {t : Tok}
    (C : Cx w A₀ base h₀ outer L m news s.heap mean mg mb) (hk : cs.kind = .function) (hM : ModelAt w news M D S) (hdp : dp < 900) (hun : un < 1000)
    (hS : (S, listOf vs.toArray n) ∈ news) (hsz : vs.length ≤ 100) (h0 : d ≤ 0) (h1 : -(vs.length : Int) < d)
    (ret : ∀ h' tk', Fr h₀ L h' m → News h₀ L h' news → Q (vs.getD (d - 1 + vs.length).toNat .none) { s with heap := h', toks := tk' }) :
    wpAny (model PySem.Challenge.rw_bq0029_01.row.prog w) (ktrTop dp un gd cn cs L a ccd cl outer) (call (.ref 223) [.ref M, .int d t]) Q E s := by
  obtain ⟨B, F, X, N, T⟩ := C
  obtain ⟨hi, td, hdd⟩ := hM
  refine wpAny_call ?_
  k_dflt ktr_enter
  k_steps
  exact ret _ _ (by assumption) (by assumption)
end
-- <mac>
local macro_rules | `(tactic| walk_at "call ref") => `(tactic| (k_here; (with_reducible show wpAny _ _ (call (Value.ref 223) [Value.ref _, Value.int _ _]) _ _ _); k_dflt (refine' peek_spec ?C ?k ?M ?dp ?un ?S ?sz ?a ?b ?_; (case C => walk_at "cx"); (case k => first | exact rfl | assumption); (case M => walk_at "modelat"); (case dp => walk_at "room"); (case un => walk_at "room"); (case S => k_mem); (case sz => omega); (case a => omega); (case b => omega)); intro h' tk' F' N'; (try k_sweep)))
-- </mac>
end
local macro_rules | `(tactic| walk_at "call ref") => `(tactic| (k_here; (with_reducible show wpAny _ _ (call (Value.ref 223) [Value.ref _, Value.int _ _]) _ _ _); k_dflt (refine' peek_spec ?C ?k ?M ?dp ?un ?S ?sz ?a ?b ?_; (case C => walk_at "cx"); (case k => first | exact rfl | assumption); (case M => walk_at "modelat"); (case dp => walk_at "room"); (case un => walk_at "room"); (case S => k_mem); (case sz => omega); (case a => omega); (case b => omega)); intro h' tk' F' N'; (try k_sweep)))
local macro_rules | `(tactic| walk_at "zz") => `(tactic| skip)
local macro_rules | `(tactic| walk_at "zz") => `(tactic| skip)
theorem filled_P3 : ∀ (w : World) (h : Heap), (hd.heap_39 w.params).In h → PySem.Challenge.rw_bq0029_01.wellSaid = true → True := by
  k_fill
  w_top off
  intros; trivial
section
section
variable {w : World} {dp un : Nat} {gd : Option (List Code)} {cn : Str} {cs : Scope} {a : Addr} {ccd : Value} {cl : List (Str × Addr)} {outer : List Env} {A₀ : Around} {base h₀ : Heap} {L : Addr} {m : Str → Option Value} {news news' : List (Addr × Obj)} {s : Shared}
    {mean : ExcName → Option Value} {mg mb : Str → Option Value} {Q E : Value → Shared → Prop}
set_option maxHeartbeats 8000000 in
theorem dup_spec {M D S : Addr} {vs : List Value} {n : Nat} {d : Int} {t : Tok}
    (C : Cx w A₀ base h₀ outer L m news s.heap mean mg mb) (hk : cs.kind = .function) (hM : ModelAt w news M D S) (hdp : dp < 800) (hun : un < 900)
    (hsz : vs.length ≤ 100) (h0 : d ≤ 0) (h1 : -(vs.length : Int) < d)
    (U : Upd S (listOf vs.toArray n) (listOf (vs.toArray.push (vs.getD (d - 1 + vs.length).toNat .none)) (n + 1)) news news')
    (ret : ∀ h' tk', Fr h₀ L h' m → News h₀ L h' news' → Q .none { s with heap := h', toks := tk' }) :
    wpAny (model PySem.Challenge.rw_bq0029_01.row.prog w) (ktrTop dp un gd cn cs L a ccd cl outer) (call (.ref 237) [.ref M, .int d t]) Q E s := by
  obtain ⟨B, F, X, N, T⟩ := C
  obtain ⟨hi, td, hdd⟩ := hM
  have hS : (S, listOf vs.toArray n) ∈ news := by obtain ⟨_, _, rfl, rfl, _, _⟩ := U.split; simp
  refine wpAny_call ?_
  k_dflt ktr_enter
  k_steps
  exact ret _ _ (by assumption) (by assumption)
end
end
local macro_rules | `(tactic| walk_at "zz") => `(tactic| skip)
theorem filled_P4 : ∀ (w : World) (h : Heap), (hd.heap_39 w.params).In h → PySem.Challenge.rw_bq0029_01.wellSaid = true → True := by
  k_fill
  w_top off
  intros; trivial
section
section
variable {w : World} {dp un : Nat} {gd : Option (List Code)} {cn : Str} {cs : Scope} {a : Addr} {ccd : Value} {cl : List (Str × Addr)} {outer : List Env} {A₀ : Around} {base h₀ : Heap} {L : Addr} {m : Str → Option Value} {news news' : List (Addr × Obj)} {s : Shared}
    {mean : ExcName → Option Value} {mg mb : Str → Option Value} {Q E : Value → Shared → Prop}
set_option maxHeartbeats 8000000 in
theorem swap_spec {M D S : Addr} {vs : List Value} {n : Nat} {d : Int} {t : Tok}
    (C : Cx w A₀ base h₀ outer L m ((S, listOf vs.toArray n) :: news) s.heap mean mg mb) (hk : cs.kind = .function) (hM : ModelAt w news M D S) (hdp : dp < 800) (hun : un < 900)
    (hsz : vs.length ≤ 100) (h0 : d < 0) (h1 : -(vs.length : Int) < d) (hoff : ∀ p ∈ news, p.1 ≠ S)
    (ret : ∀ h' tk', Fr h₀ L h' m → News h₀ L h' ((S, listOf ((vs.set (-1 + vs.length : Int).toNat (vs.getD (d - 1 + vs.length).toNat .none)).set (d - 1 + vs.length).toNat (vs.getD (-1 + vs.length : Int).toNat .none)).toArray n) :: news) → Q .none { s with heap := h', toks := tk' }) :
    wpAny (model PySem.Challenge.rw_bq0029_01.row.prog w) (ktrTop dp un gd cn cs L a ccd cl outer) (call (.ref 244) [.ref M, .int d t]) Q E s := by
  obtain ⟨B, F, X, N, T⟩ := C
  obtain ⟨hi, td, hdd⟩ := hM
  refine wpAny_call ?_
  k_dflt ktr_enter
  k_steps
  refine ret _ _ (by assumption) ?_
  (rename News h₀ _ _ _ => kNn)
  simp only [List.length_set] at kNn
  exact kNn
end
end
local macro_rules | `(tactic| walk_at "zz") => `(tactic| skip)
theorem filled_P5 : ∀ (w : World) (h : Heap), (hd.heap_39 w.params).In h → PySem.Challenge.rw_bq0029_01.wellSaid = true → True := by
  k_fill
  w_top off
  intros; trivial
section
section
variable {w : World} {dp un : Nat} {gd : Option (List Code)} {cn : Str} {cs : Scope} {a : Addr} {ccd : Value} {cl : List (Str × Addr)} {outer : List Env} {A₀ : Around} {base h₀ : Heap} {L : Addr} {m : Str → Option Value} {news news' : List (Addr × Obj)} {s : Shared}
    {mean : ExcName → Option Value} {mg mb : Str → Option Value} {Q E : Value → Shared → Prop}
set_option maxHeartbeats 8000000 in
theorem poke_spec {M D S : Addr} {v : Value} {o : Op} {vs : List Value} {n : Nat} {d : Int} {t : Tok}
    (C : Cx w A₀ base h₀ outer L m ((S, listOf vs.toArray n) :: news) s.heap mean mg mb) (hk : cs.kind = .function) (hM : ModelAt w news M D S) (hv : OpIn w news v o) (hdp : dp < 800) (hun : un < 900)
    (hsz : vs.length ≤ 100) (h0 : d ≤ 0) (h1 : -(vs.length : Int) < d) (hoff : ∀ p ∈ news, p.1 ≠ S)
    (ret : ∀ h' tk', Fr h₀ L h' m → News h₀ L h' ((S, listOf (vs.set (d - 1 + vs.length).toNat v).toArray n) :: news) → Q .none { s with heap := h', toks := tk' }) :
    wpAny (model PySem.Challenge.rw_bq0029_01.row.prog w) (ktrTop dp un gd cn cs L a ccd cl outer) (call (.ref 230) [.ref M, .int d t, v]) Q E s := by
  obtain ⟨B, F, X, N, T⟩ := C
  obtain ⟨hi, td, hdd⟩ := hM
  cases hv
  all_goals (
    refine wpAny_call ?_
    k_dflt ktr_enter
    k_steps
    exact ret _ _ (by assumption) (by assumption))
end
end
local macro_rules | `(tactic| walk_at "zz") => `(tactic| skip)
theorem filled_P6 : ∀ (w : World) (h : Heap), (hd.heap_39 w.params).In h → PySem.Challenge.rw_bq0029_01.wellSaid = true → True := by
  k_fill
  w_top off
  intros; trivial
section
section
variable {w : World} {dp un : Nat} {gd : Option (List Code)} {cn : Str} {cs : Scope} {a : Addr} {ccd : Value} {cl : List (Str × Addr)} {outer : List Env} {A₀ : Around} {base h₀ : Heap} {L : Addr} {m : Str → Option Value} {news news' : List (Addr × Obj)} {s : Shared}
    {mean : ExcName → Option Value} {mg mb : Str → Option Value} {Q E : Value → Shared → Prop}
set_option maxHeartbeats 8000000 in
theorem copy_spec {M D S : Addr} {vs : List Value} {n : Nat}
    (C : Cx w A₀ base h₀ outer L m news s.heap mean mg mb) (hk : cs.kind = .function) (hM : ModelAt w news M D S) (hdp : dp < 800) (hun : un < 900)
    (hsz : vs.length ≤ 100) (hS : (S, listOf vs.toArray n) ∈ news)
    (ret : ∀ M' D' S' n' add h' tk', Fr h₀ L h' m → News h₀ L h' (add ++ news) → (∀ p ∈ news, ∀ q ∈ add, p.1 < q.1) → ModelAt w add M' D' S' → (S', listOf vs.toArray n') ∈ add → Q (.ref M') { s with heap := h', toks := tk' }) :
    wpAny (model PySem.Challenge.rw_bq0029_01.row.prog w) (ktrTop dp un gd cn cs L a ccd cl outer) (call (.ref 179) [.ref M]) Q E s := by
  obtain ⟨B, F, X, N, T⟩ := C
  obtain ⟨hi, td, hdd⟩ := hM
  refine wpAny_call ?_
  k_dflt ktr_enter
  k_steps
  (rename News h₀ _ _ _ => kNn)
  (rename ∀ p ∈ news, p.1 < _ => kA)
  (rename _ < _ ∧ _ < _ ∧ _ < _ ∧ AllLt _ _ => kB)
  (rename _ < _ ∧ _ < _ ∧ AllLt _ _ => kC)
  (rename _ < _ => kD)
  refine' ret _ _ _ 0 [_, _, _, _] _ _ ?fF kNn ?fO (ModelAt.mk ?fI ⟨_, ?fD⟩) ?fS
  case fF => assumption
  case fI => k_mem
  case fD => k_mem
  case fS => k_mem
  · intro p hp q hq
    have h0 := ltN (kA p hp)
    simp only [List.mem_cons, List.mem_nil_iff, or_false] at hq
    rcases hq with rfl | rfl | rfl | rfl <;> dsimp only <;> refine ltN ?_ <;> omega
end
end
local macro_rules | `(tactic| walk_at "zz") => `(tactic| skip)
theorem filled_P7 : ∀ (w : World) (h : Heap), (hd.heap_39 w.params).In h → PySem.Challenge.rw_bq0029_01.wellSaid = true → True := by
  k_fill
  w_top off
  intros; trivial
section
section
variable {w : World} {dp un : Nat} {gd : Option (List Code)} {cn : Str} {cs : Scope} {a : Addr} {ccd : Value} {cl : List (Str × Addr)} {outer : List Env} {A₀ : Around} {base h₀ : Heap} {L : Addr} {m : Str → Option Value} {news news' : List (Addr × Obj)} {s : Shared}
    {mean : ExcName → Option Value} {mg mb : Str → Option Value} {Q E : Value → Shared → Prop}
set_option maxHeartbeats 8000000 in
theorem pop_spec {M D S : Addr} {vs : List Value} {n : Nat} {d : Int} {t : Tok}
    (C : Cx w A₀ base h₀ outer L m ((S, listOf vs.toArray n) :: news) s.heap mean mg mb) (hk : cs.kind = .function) (hM : ModelAt w news M D S) (hdp : dp < 800) (hun : un < 900)
    (hsz : vs.length ≤ 100) (h0 : 0 ≤ d) (h1 : d ≤ (vs.length : Int)) (hoff : ∀ p ∈ news, p.1 ≠ S)
    (ret : ∀ n' h' tk', Fr h₀ L h' m → News h₀ L h' ((S, listOf (vs.take (vs.length - d.toNat)).toArray n') :: news) → Q .none { s with heap := h', toks := tk' }) :
    wpAny (model PySem.Challenge.rw_bq0029_01.row.prog w) (ktrTop dp un gd cn cs L a ccd cl outer) (call (.ref 202) [.ref M, .int d t]) Q E s := by
  obtain ⟨B, F, X, N, T⟩ := C
  obtain ⟨hi, td, hdd⟩ := hM
  refine wpAny_call ?_
  k_dflt ktr_enter
  k_steps
  (rename News h₀ _ _ _ => kNn)
  rw [show ((vs.length : Int) - d).toNat = vs.length - d.toNat by omega] at kNn
  exact ret _ _ _ (by assumption) kNn
set_option maxHeartbeats 8000000 in
theorem pop1_spec {M D S : Addr} {vs : List Value} {n : Nat}
    (C : Cx w A₀ base h₀ outer L m ((S, listOf vs.toArray n) :: news) s.heap mean mg mb) (hk : cs.kind = .function) (hM : ModelAt w news M D S) (hdp : dp < 800) (hun : un < 900)
    (hsz : vs.length ≤ 100) (h1 : 1 ≤ vs.length) (hoff : ∀ p ∈ news, p.1 ≠ S)
    (ret : ∀ n' h' tk', Fr h₀ L h' m → News h₀ L h' ((S, listOf (vs.take (vs.length - 1)).toArray n') :: news) → Q .none { s with heap := h', toks := tk' }) :
    wpAny (model PySem.Challenge.rw_bq0029_01.row.prog w) (ktrTop dp un gd cn cs L a ccd cl outer) (call (.ref 202) [.ref M]) Q E s := by
  obtain ⟨B, F, X, N, T⟩ := C
  obtain ⟨hi, td, hdd⟩ := hM
  refine wpAny_call ?_
  k_dflt ktr_enter
  k_steps
  (rename News h₀ _ _ _ => kNn)
  rw [show ((vs.length : Int) - 1).toNat = vs.length - 1 by omega] at kNn
  exact ret _ _ _ (by assumption) kNn
end
end
local macro_rules | `(tactic| walk_at "zz") => `(tactic| skip)
theorem filled_P8 : ∀ (w : World) (h : Heap), (hd.heap_39 w.params).In h → PySem.Challenge.rw_bq0029_01.wellSaid = true → True := by
  k_fill
  w_top off
  intros; trivial
section
section
variable {w : World} {dp un : Nat} {gd : Option (List Code)} {cn : Str} {cs : Scope} {a : Addr} {ccd : Value} {cl : List (Str × Addr)} {outer : List Env} {A₀ : Around} {base h₀ : Heap} {L : Addr} {m : Str → Option Value} {news news' : List (Addr × Obj)} {s : Shared}
    {mean : ExcName → Option Value} {mg mb : Str → Option Value} {Q E : Value → Shared → Prop}
set_option maxHeartbeats 8000000 in
theorem operand_spec {d : Int} {t : Tok}
    (C : Cx w A₀ base h₀ outer L m news s.heap mean mg mb) (hk : cs.kind = .function) (hdp : dp < 800) (hun : un < 900)
    (ret : ∀ v o add h' tk', Fr h₀ L h' m → News h₀ L h' (add ++ news) → (∀ p ∈ news, ∀ q ∈ add, p.1 < q.1) → OpIn w add v o → o.small → Q v { s with heap := h', toks := tk' }) :
    wpAny (model PySem.Challenge.rw_bq0029_01.row.prog w) (ktrTop dp un gd cn cs L a ccd cl outer) (call (.ref 272) [.int d t]) Q E s := by
  obtain ⟨B, F, X, N, T⟩ := C
  refine wpAny_call ?_
  k_dflt ktr_enter
  k_steps
  all_goals (rename News h₀ _ _ _ => kNn)
  · (rename ∀ p ∈ news, p.1 < _ => kA)
    (rename _ < _ => kD)
    refine' ret _ (.lit _) [(_, instObj 97 _), (_, dictOf [ent w "value" _ (.int _ _), ent w "_hash" _ .none] 2)] _ _ ?fF (news_pair kNn ?hx ?hd ?hs) ?fO (OpIn.lit List.mem_cons_self (List.mem_cons_of_mem _ List.mem_cons_self)) ?fB
    case fF => assumption
    case hx => k_mem
    case hd => k_mem
    case hs => exact fun p hp => by k_mem
    case fO => exact lt_pair kA kD
    case fB => exact ⟨fmod_lo _ (by decide), fmod_hi _ (by decide)⟩
  · (rename ∀ p ∈ news, p.1 < _ => kA)
    (rename _ < _ => kD)
    refine' ret _ (.var _) [(_, instObj 126 _), (_, dictOf [ent w "value" _ (.str _ _), ent w "_hash" _ .none] 2)] _ _ ?fF (news_pair kNn ?hx ?hd ?hs) ?fO (OpIn.var List.mem_cons_self (List.mem_cons_of_mem _ List.mem_cons_self)) ?fB
    case fF => assumption
    case hx => k_mem
    case hd => k_mem
    case hs => exact fun p hp => by k_mem
    case fO => exact lt_pair kA kD
    case fB =>
      have f1 := fmod_lo (d.fdiv 6) (n := 4) (by decide)
      have f2 := fmod_hi (d.fdiv 6) (n := 4) (by decide)
      rcases (by omega : (d.fdiv 6).fmod 4 = 0 ∨ (d.fdiv 6).fmod 4 = 1 ∨ (d.fdiv 6).fmod 4 = 2 ∨ (d.fdiv 6).fmod 4 = 3) with e | e | e | e
      · exact Or.inl (by rw [e]; decide +kernel)
      · exact Or.inr (Or.inl (by rw [e]; decide +kernel))
      · exact Or.inr (Or.inr (Or.inl (by rw [e]; decide +kernel)))
      · exact Or.inr (Or.inr (Or.inr (by rw [e]; decide +kernel)))
  all_goals (
    (rename _ < _ ∧ AllLt _ _ => kA)
    (rename _ < _ => kD)
    refine' ret _ (.lab _) [(_, instObj 155 _), (_, dictOf [ent w "is_symbol" _ (.bool false), ent w "value" _ (.str _ _), ent w "_hash" _ .none] 3)] _ _ ?fF (news_pair kNn ?hx ?hd ?hs) ?fO (OpIn.lab List.mem_cons_self (List.mem_cons_of_mem _ List.mem_cons_self)) ?fB
    case fF => assumption
    case hx => k_mem
    case hd => k_mem
    case hs => exact fun p hp => by k_mem
    case fO => exact lt_pair (lt_of_all kA.2) kD
    case fB => first | exact Or.inl rfl | exact Or.inr rfl)
end
end
local macro_rules | `(tactic| walk_at "zz") => `(tactic| skip)
theorem filled_P9 : ∀ (w : World) (h : Heap), (hd.heap_39 w.params).In h → PySem.Challenge.rw_bq0029_01.wellSaid = true → True := by
  k_fill
  w_top off
  intros; trivial
section
section
variable {prog : Program} {w : World} {A : Around} {E : Value → Shared → Prop} {s : Shared} {l : Addr} {vs : List Value} {ns : List Int} {k : Int} {u : Tok}
theorem ltruthy {Q : Bool → Shared → Prop} (hl : s.heap.IsList l vs.toArray) (hz : vs.length ≤ 1000) (h : ∀ tk, Q (decide (0 < vs.length)) { s with toks := tk }) : wpAny (model prog w) A (truthy (.ref l)) Q E s := by
  refine wpAny_truthy_list hl (by rw [List.size_toArray]; omega) ?_
  have e : (!vs.toArray.isEmpty) = decide (0 < vs.length) := by cases vs <;> simp
  rw [e]
  exact h _
theorem lint_item {value slice : PySem.Expr} {Q : Value → Shared → Prop} (hl : s.heap.IsList l vs.toArray) (hi : IntsAre vs ns) (h0 : 0 ≤ k) (h1 : k < (vs.length : Int)) (hz : vs.length ≤ 1000) (h : ∀ r t, Q (.int r t) s)
    (hs : subscripted slice false (.ref l) (.int k u) = operate [.ref l, .int k u] (getItem (.ref l) (.int k u)) := by with_unfolding_all rfl) :
    wpAny (model prog w) A (subscriptTail value slice (.ref l) (.int k u)) Q E s := by
  have hk : k.toNat < ns.length := by rw [← hi.length]; omega
  obtain ⟨t, ht⟩ := hi.get k.toNat ns[k.toNat] (by simp [hk])
  exact tail_any hl.typeIs slot_list_getitem.lookup (wpAny_getItem_list hl h0 (by omega) (by simpa using ht) (h _ t)) hs
end
local macro_rules | `(tactic| walk_at "truthy ref") => `(tactic| (k_here; k_dflt (refine' ltruthy ?k1 ?k2 ?_; (case k1 => is_list); (case k2 => omega)); intro tk'))
local macro_rules | `(tactic| walk_at "call builtin:len") => `(tactic| (k_here; (with_reducible show wpAny _ _ (call (Value.builtin "len") [Value.ref _]) _ _ _); k_dflt (refine' len_list ?k1 ?k2 ?_; (case k1 => is_list); (case k2 => ((simp only [List.size_toArray]); omega))); (try simp only [List.size_toArray])))
local macro_rules | `(tactic| walk_at "subscriptTail") => `(tactic| (k_here; (with_reducible show wpAny _ _ (subscriptTail _ _ (Value.ref _) (Value.int (Int.fmod _ _) _)) _ _ _); k_dflt (refine' lint_item ?k1 ?k2 ?k3 ?k4 ?k5 ?_ ?k6; (case k1 => is_list); (case k2 => assumption); (case k3 => exact fmod_lo _ (by omega)); (case k4 => exact fmod_hi _ (by omega)); (case k5 => omega); (case k6 => with_unfolding_all rfl)); intro r' t'))
section
variable {w : World} {dp un : Nat} {gd : Option (List Code)} {cn : Str} {cs : Scope} {a : Addr} {ccd : Value} {cl : List (Str × Addr)} {outer : List Env} {A₀ : Around} {base h₀ : Heap} {L : Addr} {m : Str → Option Value} {news news' : List (Addr × Obj)} {s : Shared}
    {mean : ExcName → Option Value} {mg mb : Str → Option Value} {Q E : Value → Shared → Prop}
set_option maxHeartbeats 8000000 in
theorem num_spec {d : Int} {t : Tok} {sa : Addr} {vs : List Value} {ns : List Int}
    (C : Cx w A₀ base h₀ outer L m news s.heap mean mg mb) (hk : cs.kind = .function) (hdp : dp < 800) (hun : un < 900)
    (hl : base.IsList sa vs.toArray) (hi : IntsAre vs ns) (hz : vs.length ≤ 63) (h0 : 0 ≤ d)
    (ret : ∀ r t' h' tk', Fr h₀ L h' m → News h₀ L h' news → Q (.int r t') { s with heap := h', toks := tk' }) :
    wpAny (model PySem.Challenge.rw_bq0029_01.row.prog w) (ktrTop dp un gd cn cs L a ccd cl outer) (call (.ref 265) [.ref sa, .int d t]) Q E s := by
  obtain ⟨B, F, X, N, T⟩ := C
  refine wpAny_call ?_
  k_dflt ktr_enter
  k_steps
  all_goals exact ret _ _ _ _ (by assumption) (by assumption)
end
end
local macro_rules | `(tactic| walk_at "zz") => `(tactic| skip)
local macro_rules | `(tactic| walk_at "zz") => `(tactic| skip)
local macro_rules | `(tactic| walk_at "zz") => `(tactic| skip)
local macro_rules | `(tactic| walk_at "zz") => `(tactic| skip)
theorem filled_V : ∀ (w : World) (h : Heap), (hd.heap_39 w.params).In h → PySem.Challenge.rw_bq0029_01.wellSaid = true → True := by
  k_fill
  w_top off
  intros; trivial
section
/-- the operand's value -/
abbrev Op.val : Op → Tok → Value
  | .lit i, t => .int i t
  | .var x, t => .str x t
  | .lab x, t => .str x t
def Op.isVar : Op → Bool
  | .var _ => true
  | _ => false
def Op.same : Op → Op → Bool
  | .lit i, .lit j => i == j
  | .lit _, _ => false
  | _, .lit _ => false
  | .var x, .var y => x == y
  | .var x, .lab y => x == y
  | .lab x, .var y => x == y
  | .lab x, .lab y => x == y
section
variable {w : World} {A : Around} {h₀ : Heap} {L : Addr} {m : Str → Option Value} {news : List (Addr × Obj)} {s : Shared} {E : Value → Shared → Prop} {v : Value} {o o' : Op}
set_option maxHeartbeats 8000000 in
theorem op_value {nw : List (Addr × Obj)} {b : Bool} {Q : Value → Shared → Prop} (ho' : OpIn w nw v o) (F : Fr h₀ L s.heap m) (X : (hd.heap_39 w.params).In h₀) (N : News h₀ L s.heap news) (hs : ∀ p ∈ nw, p ∈ news) (h : ∀ t tk, Q (o.val t) { s with toks := tk }) :
    wpAny (model PySem.Challenge.rw_bq0029_01.row.prog w) A (getAttr v "value" b) Q E s := by
  have ho := ho'.mono hs
  clear ho' hs
  cases ho
  · k_steps
    exact h _ _
  · k_steps
    exact h _ _
  · k_steps
    exact h _ _
set_option maxHeartbeats 8000000 in
theorem op_isinst {nw : List (Addr × Obj)} {Q : Value → Shared → Prop} (ho' : OpIn w nw v o) (F : Fr h₀ L s.heap m) (X : (hd.heap_39 w.params).In h₀) (N : News h₀ L s.heap news) (hs : ∀ p ∈ nw, p ∈ news) (h : ∀ tk, Q (.bool true) { s with toks := tk }) :
    wpAny (model PySem.Challenge.rw_bq0029_01.row.prog w) A (call (.builtin "isinstance") [v, .ref 67]) Q E s := by
  have ho := ho'.mono hs
  clear ho' hs
  cases ho
  all_goals k_steps
  all_goals exact h _
set_option maxHeartbeats 8000000 in
theorem op_isvar {nw : List (Addr × Obj)} {Q : Value → Shared → Prop} (ho' : OpIn w nw v o) (F : Fr h₀ L s.heap m) (X : (hd.heap_39 w.params).In h₀) (N : News h₀ L s.heap news) (hs : ∀ p ∈ nw, p ∈ news) (h : ∀ tk, Q (.bool o.isVar) { s with toks := tk }) :
    wpAny (model PySem.Challenge.rw_bq0029_01.row.prog w) A (call (.builtin "isinstance") [v, .ref 126]) Q E s := by
  have ho := ho'.mono hs
  clear ho' hs
  cases ho
  all_goals k_steps
  all_goals exact h _
set_option maxHeartbeats 8000000 in
theorem op_eq {t t' : Tok} {Q : Value → Shared → Prop} (h : Q (.bool (o.same o')) s) :
    wpAny (model PySem.Challenge.rw_bq0029_01.row.prog w) A (compareOp .Eq (o.val t) (o'.val t')) Q E s := by
  cases o <;> cases o'
  all_goals (dsimp only [Op.val]; k_steps)
  all_goals exact h
end
-- <mac>
local macro_rules | `(tactic| walk_at "sub") => `(tactic| first | exact fun _ hp => hp | exact fun _ hp => List.mem_append_left _ hp | (intro p hp; k_mem))
local macro_rules | `(tactic| walk_at "getAttr") => `(tactic| (k_here; (with_reducible show wpAny _ _ (getAttr _ (PySem.Str.ofString "value") _) _ _ _); k_dflt (refine' op_value ?ho ?F ?X ?N ?hs ?_; (case ho => with_reducible assumption); (case F => k_asm); (case X => k_asm); (case N => k_asm); (case hs => walk_at "sub")); intro t' tk'))
local macro_rules | `(tactic| walk_at "compareOp Eq") => `(tactic| (k_here; (with_reducible refine op_eq ?_)))
local macro_rules | `(tactic| walk_at "call builtin:isinstance") => `(tactic| (k_here; (with_reducible show wpAny _ _ (call _ [_, Value.ref 67]) _ _ _); k_dflt (refine' op_isinst ?ho ?F ?X ?N ?hs ?_; (case ho => with_reducible assumption); (case F => k_asm); (case X => k_asm); (case N => k_asm); (case hs => walk_at "sub")); intro tk'))
local macro_rules | `(tactic| walk_at "call builtin:isinstance") => `(tactic| (k_here; (with_reducible show wpAny _ _ (call _ [_, Value.ref 126]) _ _ _); k_dflt (refine' op_isvar ?ho ?F ?X ?N ?hs ?_; (case ho => with_reducible assumption); (case F => k_asm); (case X => k_asm); (case N => k_asm); (case hs => walk_at "sub")); intro tk'))
-- </mac>
end
local macro_rules | `(tactic| walk_at "sub") => `(tactic| first | exact fun _ hp => hp | exact fun _ hp => List.mem_append_left _ hp | (intro p hp; k_mem))
local macro_rules | `(tactic| walk_at "getAttr") => `(tactic| (k_here; (with_reducible show wpAny _ _ (getAttr _ (PySem.Str.ofString "value") _) _ _ _); k_dflt (refine' op_value ?ho ?F ?X ?N ?hs ?_; (case ho => with_reducible assumption); (case F => k_asm); (case X => k_asm); (case N => k_asm); (case hs => walk_at "sub")); intro t' tk'))
local macro_rules | `(tactic| walk_at "compareOp Eq") => `(tactic| (k_here; (with_reducible refine op_eq ?_)))
local macro_rules | `(tactic| walk_at "call builtin:isinstance") => `(tactic| (k_here; (with_reducible show wpAny _ _ (call _ [_, Value.ref 67]) _ _ _); k_dflt (refine' op_isinst ?ho ?F ?X ?N ?hs ?_; (case ho => with_reducible assumption); (case F => k_asm); (case X => k_asm); (case N => k_asm); (case hs => walk_at "sub")); intro tk'))
local macro_rules | `(tactic| walk_at "call builtin:isinstance") => `(tactic| (k_here; (with_reducible show wpAny _ _ (call _ [_, Value.ref 126]) _ _ _); k_dflt (refine' op_isvar ?ho ?F ?X ?N ?hs ?_; (case ho => with_reducible assumption); (case F => k_asm); (case X => k_asm); (case N => k_asm); (case hs => walk_at "sub")); intro tk'))
local macro_rules | `(tactic| walk_at "zz") => `(tactic| skip)
local macro_rules | `(tactic| walk_at "zz") => `(tactic| skip)
local macro_rules | `(tactic| walk_at "zz") => `(tactic| skip)
local macro_rules | `(tactic| walk_at "zz") => `(tactic| skip)
local macro_rules | `(tactic| walk_at "zz") => `(tactic| skip)
local macro_rules | `(tactic| walk_at "zz") => `(tactic| skip)
theorem filled_EN : ∀ (w : World) (h : Heap), (hd.heap_39 w.params).In h → PySem.Challenge.rw_bq0029_01.wellSaid = true → True := by
  k_fill
  w_top off
  intros; trivial
section
section
variable {prog : Program} {w : World} {A : Around} {E : Value → Shared → Prop} {s : Shared}
theorem nextOf_rev {it l : Addr} {i : Nat} {items : Array Value} {x : Value} {Q : Value → Shared → Prop} (hit : s.heap.IsRevIter it l (i : Int)) (hl : s.heap.IsList l items) (hx : items[i]? = some x)
    (hQ : ∀ h', h'.IsRevIter it l ((i : Int) - 1) → Heap.SameBut it s.heap h' → Q x { s with heap := h' }) : wpAny (model prog w) A (Builtin.SmallTypes.nextOf (.ref it)) Q E s := by
  obtain ⟨o, ho, hc, hd⟩ := id hit
  obtain ⟨ol, hol, _, nl, hdl⟩ := hl
  unfold Builtin.SmallTypes.nextOf
  refine wpAny_bind (wpAny_callSpecial?_slot (name := Str.ofString "__next__") hit.typeIs F.slot_lri_next
    (wpAny_call_entry F.slot_lri_next hit.typeIs F.entry_lri_next ?_ (F.args_lri_next_1 _)))
  unfold Builtin.«list_reverseiterator.__next__»
  refine wpAny_bind (wpAny_of_eq (a := (Value.ref it, [])) rfl ?_)
  try dsimp only
  refine wpAny_bind (wpAny_field ho hd (x := rawInt (i : Int)) rfl ?_)
  show wpAny _ _ (if (i : Int) < 0 then _ else _) _ _ s
  rw [if_neg (by omega)]
  show wpAny _ _ (field (.ref it) 0 >>= _) _ _ s
  refine wpAny_bind (wpAny_field ho hd (x := .ref l) rfl ?_)
  show wpAny _ _ (seqItems? (.ref l) >>= _) _ _ s
  refine wpAny_bind (wpAny_seqItems hol hdl ?_)
  simp only [Int.toNat_natCast, hx]
  refine wpAny_bind (wpAny_setField ho hd (by simp) ?_)
  first
  | refine wpAny_pure ⟨x, rfl, wpAny_pure (hQ _ ?_ (Heap.SameBut.update ..))⟩
  | refine wpAny_bind (wpAny_pure (wpAny_pure ⟨x, rfl, wpAny_pure (hQ _ ?_ (Heap.SameBut.update ..))⟩))
  exact ⟨_, Heap.get?_update_self _ ho (Obj.isFreed_of_fields (Obj.data_mapFields hd _)), (Obj.cls_mapFields ..).trans hc, by
    rw [Obj.data_mapFields hd]; simp⟩
theorem nextOf_rev_end {it l : Addr} {Q : Value → Shared → Prop} (hh : A.handled = none) (hit : s.heap.IsRevIter it l (-1))
    (hE : ∀ h' e, Heap.ExtBut it s.heap h' → (∃ o, h'.get? e = some o ∧ o.cls = .type "StopIteration") → E (.ref e) { s with heap := h' }) :
    wpAny (model prog w) A (Builtin.SmallTypes.nextOf (.ref it)) Q E s := by
  obtain ⟨o, ho, hc, hd⟩ := id hit
  unfold Builtin.SmallTypes.nextOf
  refine wpAny_bind (wpAny_callSpecial?_slot (name := Str.ofString "__next__") hit.typeIs F.slot_lri_next
    (wpAny_call_entry F.slot_lri_next hit.typeIs F.entry_lri_next ?_ (F.args_lri_next_1 _)))
  unfold Builtin.«list_reverseiterator.__next__»
  refine wpAny_bind (wpAny_of_eq (a := (Value.ref it, [])) rfl ?_)
  try dsimp only
  refine wpAny_bind (wpAny_field ho hd (x := rawInt (-1)) rfl ?_)
  show wpAny _ _ (if (-1 : Int) < 0 then _ else _) _ _ s
  rw [if_pos (by decide)]
  refine wpAny_bind (wpAny_rule ?_)
  first
  | show wpAny _ _ (newExc (.type "StopIteration") [] >>= _) _ _ _
  | (refine wpAny_bind ?_; show wpAny _ _ (newExc (.type "StopIteration") [] >>= _) _ _ _)
  refine wpAny_bind ?_
  simp only [newExc, newTuple]
  refine wpAny_bind (wpAny_newObj_type ?_ (Nat.le_of_ble_eq_true rfl))
  refine wpAny_bind (m := firstArgMember _ _) (wpAny_of_eq (a := Value.none) (by first | rfl | (simp only [firstArgMember]; rfl)) ?_)
  refine wpAny_newObj_type ?_ (Nat.le_of_ble_eq_true rfl)
  simp only [raiseNew]
  refine wpAny_bind (wpAny_handled ?_)
  first | rw [show A.in1.handled = none from hh] | rw [hh]
  refine wpAny_bind (wpAny_pure (wpAny_throw ?_))
  exact hE _ _ (((Heap.ExtBut.refl _ _).push _).push _) ⟨_, Heap.get?_push_size _ rfl, rfl⟩

theorem rev_at {h h' : Heap} {it l : Addr} {k : Int} (x : h.IsRevIter it l k) (hs : ∀ o, h.get? it = some o → h'.get? it = some o) : h'.IsRevIter it l k := x.at hs

/-- one step of enumerate over a reversed list -/
theorem enumRev_next {e it l : Addr} {i : Nat} {j : Nat} {items : Array Value} {x old : Value} {Q : Value → Shared → Prop}
    (he : IsEnum s.heap e it i old) (hit : s.heap.IsRevIter it l (j : Int)) (hl : s.heap.IsList l items) (hx : items[j]? = some x) (hne : e ≠ it)
    (hQ : ∀ h', IsEnumOut h' e it ((i : Int) + 1) x s.heap.objs.size → h'.IsRevIter it l ((j : Int) - 1) →
      h'.get? s.heap.objs.size = some { cls := .type "tuple", data := .seq #[.int i s.toks, x] } → 
      (∀ b o, b ≠ e → b ≠ it → s.heap.get? b = some o → h'.get? b = some o) → Q (.ref s.heap.objs.size) { s with heap := h', toks := s.toks + 1 }) :
    wpAny (model prog w) A (Builtin.«enumerate.__next__» ⟨[.ref e], []⟩) (fun fin s' => ∃ v, fin = .done (.ret v) ∧ Q v s') E s := by
  obtain ⟨hp, g, d, tk, os⟩ := s
  show wpAny _ _ (field (.ref e) 2 >>= _) _ _ _
  refine wpAny_bind (wpAny_field he rfl (x := .ref it) rfl ?_)
  refine wpAny_bind (nextOf_rev hit hl hx fun h₁ hit₁ hs₁ => ?_)
  replace hs₁ : Heap.SameBut it hp h₁ := hs₁
  have he₁ : IsEnum h₁ e it i old := (hs₁.2 e hne).trans he
  show wpAny _ _ (field (.ref e) 3 >>= _) _ _ ⟨h₁, g, d, tk, os⟩
  refine wpAny_bind (wpAny_field he₁ rfl (x := rawInt i) rfl ?_)
  show wpAny _ _ (field (.ref e) 4 >>= _) _ _ ⟨h₁, g, d, tk, os⟩
  refine wpAny_bind (wpAny_field he₁ rfl (x := .none) rfl ?_)
  show wpAny _ _ (mkInt i >>= _) _ _ ⟨h₁, g, d, tk, os⟩
  refine wpAny_bind (wpAny_mkInt ?_)
  show wpAny _ _ (setField (.ref e) 3 (rawInt ((i : Int) + 1)) >>= _) _ _ ⟨h₁, g, d, tk + 1, os⟩
  refine wpAny_bind (wpAny_setField_rec he₁ (by simp) fun h₂ he₂ hs₂ => ?_)
  replace hs₂ : Heap.SameBut e h₁ h₂ := hs₂
  replace he₂ : IsEnum h₂ e it ((i : Int) + 1) old := he₂
  show wpAny _ _ (setField (.ref e) 4 .none >>= _) _ _ ⟨h₂, g, d, tk + 1, os⟩
  refine wpAny_bind (wpAny_setField_rec he₂ (by simp) fun h₃ he₃ hs₃ => ?_)
  replace hs₃ : Heap.SameBut e h₂ h₃ := hs₃
  replace he₃ : IsEnum h₃ e it ((i : Int) + 1) old := he₃
  show wpAny _ _ (newTuple [.int i tk, x] >>= _) _ _ ⟨h₃, g, d, tk + 1, os⟩
  refine wpAny_bind (wpAny_newTuple ?_)
  have he₄ : IsEnum (h₃.push { cls := .type "tuple", data := .seq #[.int i tk, x] }) e it ((i : Int) + 1) old := Heap.get?_push_of_some _ he₃
  generalize hh₄ : h₃.push { cls := .type "tuple", data := .seq #[.int i tk, x] } = h₄ at he₄
  have hsz : h₃.objs.size = hp.objs.size := by rw [hs₃.1, hs₂.1, hs₁.1]
  have hel : e < hp.objs.size := Heap.lt_size he
  have ht₄ : h₄.get? hp.objs.size = some { cls := .type "tuple", data := .seq #[.int i tk, x] } := by rw [← hh₄, ← hsz]; exact Heap.get?_push_size _ rfl
  have hk₄ : ∀ b o, b ≠ e → b ≠ it → hp.get? b = some o → h₄.get? b = some o := fun b o hbe hbi hb => by
    rw [← hh₄]; exact Heap.get?_push_of_some _ (hs₃.extBut b o hbe (hs₂.extBut b o hbe (hs₁.extBut b o hbi hb)))
  have hit₄ : h₄.IsRevIter it l ((j : Int) - 1) := rev_at hit₁ fun o ho => by
    rw [← hh₄]; exact Heap.get?_push_of_some _ (hs₃.extBut _ o (Ne.symm hne) (hs₂.extBut _ o (Ne.symm hne) ho))
  show wpAny _ _ (Builtin.SmallTypes.ownedTupleIsFree (.ref e) >>= _) _ _ ⟨h₄, g, d, tk + 1, os⟩
  rw [hsz]
  clear hh₄ he₃ hs₃ he₂ hs₂ he₁ hs₁ hit₁ hsz h₃ h₂ h₁
  refine wpAny_bind ?_
  · unfold Builtin.SmallTypes.ownedTupleIsFree
    refine wpAny_bind (wpAny_field he₄ rfl (x := .none) rfl (wpAny_pure ?_))
    simp only [if_true]
    refine wpAny_bind (wpAny_rule ?_)
    refine wpAny_bind (wpAny_field he₄ rfl (x := old) rfl ?_)
    refine wpAny_bind (wpAny_setField_rec he₄ (by simp) fun h₅ he₅ hs₅ => ?_)
    replace hs₅ : Heap.SameBut e h₄ h₅ := hs₅
    replace he₅ : IsEnum h₅ e it ((i : Int) + 1) x := he₅
    show wpAny _ _ (Builtin.SmallTypes.ownedTupleHandOut (.ref e) (.ref hp.objs.size) >>= _) _ _ ⟨h₅, g, d, tk + 1, os⟩
    refine wpAny_bind ?_
    · unfold Builtin.SmallTypes.ownedTupleHandOut
      refine wpAny_bind (wpAny_setField_rec he₅ (by simp) fun h₆ he₆ hs₆ => ?_)
      replace hs₆ : Heap.SameBut e h₅ h₆ := hs₆
      replace he₆ : IsEnumOut h₆ e it ((i : Int) + 1) x hp.objs.size := he₆
      refine wpAny_setField_rec he₆ (by simp) fun h₇ he₇ hs₇ => ?_
      replace hs₇ : Heap.SameBut e h₆ h₇ := hs₇
      replace he₇ : IsEnumOut h₇ e it ((i : Int) + 1) x hp.objs.size := he₇
      refine wpAny_bind (wpAny_letGo (wpAny_pure ⟨_, rfl, hQ h₇ he₇ ?_ ?_ ?_⟩))
      · exact rev_at hit₄ fun o ho => hs₇.extBut _ o (Ne.symm hne) (hs₆.extBut _ o (Ne.symm hne) (hs₅.extBut _ o (Ne.symm hne) ho))
      · exact hs₇.extBut _ _ (Nat.ne_of_gt hel) (hs₆.extBut _ _ (Nat.ne_of_gt hel) (hs₅.extBut _ _ (Nat.ne_of_gt hel) ht₄))
      · exact fun b o hbe hbi hb => hs₇.extBut b o hbe (hs₆.extBut b o hbe (hs₅.extBut b o hbe (hk₄ b o hbe hbi hb)))

theorem enumRev_pyNext {e it l : Addr} {i : Nat} {j : Nat} {items : Array Value} {x old : Value} {Q : Option Value → Shared → Prop}
    (he : IsEnum s.heap e it i old) (hit : s.heap.IsRevIter it l (j : Int)) (hl : s.heap.IsList l items) (hx : items[j]? = some x) (hne : e ≠ it)
    (hQ : ∀ h', IsEnumOut h' e it ((i : Int) + 1) x s.heap.objs.size → h'.IsRevIter it l ((j : Int) - 1) →
      h'.get? s.heap.objs.size = some { cls := .type "tuple", data := .seq #[.int i s.toks, x] } →
      (∀ b o, b ≠ e → b ≠ it → s.heap.get? b = some o → h'.get? b = some o) → Q (some (.ref s.heap.objs.size)) { s with heap := h', toks := s.toks + 1 }) :
    wpAny (model prog w) A (pyNext (.ref e)) Q E s := by
  have hT : s.TypeIs (.ref e) "enumerate" := ⟨_, he, rfl⟩
  unfold pyNext
  exact wpAny_bind (wpAny_attempt (wpAny_callSpecial?_slot (name := Str.ofString "__next__") hT F.slot_enumerate_next
    (wpAny_call_entry F.slot_enumerate_next hT F.entry_enumerate_next
      (enumRev_next he hit hl hx hne fun h' a b c k => wpAny_pure (hQ h' a b c k)) (F.args_enumerate_next_1 _))))
theorem enumRev_pyNext_end {e it l : Addr} {i : Nat} {old : Value} {Q : Option Value → Shared → Prop} (hh : A.handled = none)
    (he : IsEnum s.heap e it i old) (hit : s.heap.IsRevIter it l (-1))
    (hQ : ∀ h', Heap.ExtBut it s.heap h' → Q none { s with heap := h' }) : wpAny (model prog w) A (pyNext (.ref e)) Q E s := by
  have hT : s.TypeIs (.ref e) "enumerate" := ⟨_, he, rfl⟩
  unfold pyNext
  refine wpAny_bind (wpAny_attempt (wpAny_callSpecial?_slot (name := Str.ofString "__next__") hT F.slot_enumerate_next
    (wpAny_call_entry F.slot_enumerate_next hT F.entry_enumerate_next ?_ (F.args_enumerate_next_1 _))))
  show wpAny _ _ (field (.ref e) 2 >>= _) _ _ _
  refine wpAny_bind (wpAny_field he rfl (x := .ref it) rfl ?_)
  refine wpAny_bind (nextOf_rev_end hh hit fun h' x he' hx' => ?_)
  obtain ⟨o, ho, hc⟩ := hx'
  refine wpAny_bind (wpAny_isInstance (T := "StopIteration") (b := true) ⟨o, ho, hc⟩ isSubtype_stop ?_)
  exact wpAny_pure (hQ _ he')
end

theorem walks_enumRev {prog : Program} {w : World} {A : Around} (hh : A.handled = none) (e it l : Addr) (hei : e ≠ it) (hle : l ≠ e) (hli : l ≠ it) (items : Array Value) :
    WalksT prog w A e [e, it, l] [e, it] items.size
      (fun i vals => ∃ t x, items[items.size - 1 - i]? = some x ∧ vals = #[.int i t, x])
      (fun i h => i ≤ items.size ∧ (∃ old, IsEnum h e it i old) ∧ h.IsRevIter it l ((items.size : Int) - 1 - (i : Int)) ∧ h.IsList l items)
      (fun i T h => i < items.size ∧ (∃ x, IsEnumOut h e it ((i : Int) + 1) x T) ∧ h.IsRevIter it l ((items.size : Int) - 1 - ((i : Int) + 1)) ∧ h.IsList l items ∧ T ≠ e ∧ T ≠ it) where
  sub := fun b hb => by
    rcases List.mem_cons.mp hb with rfl | hb
    · exact List.mem_cons_self ..
    · exact List.mem_cons_of_mem _ (by rcases List.mem_cons.mp hb with rfl | hb; exact List.mem_cons_self ..; cases hb)
  frame := fun i h h' hst hk => by
    obtain ⟨hi, ⟨old, he⟩, hit, hl⟩ := hst
    exact ⟨hi, ⟨old, hk e (by simp) _ he⟩, hit.at fun o x => hk it (by simp) o x, hl.at fun o x => hk l (by simp) o x⟩
  item := fun i s Q E hi hst hQ => by
    obtain ⟨_, ⟨old, he⟩, hit, hl⟩ := hst
    have hx : items[items.size - 1 - i]? = some (items[items.size - 1 - i]'(by omega)) := Array.getElem?_eq_getElem (by omega)
    have ej : (items.size : Int) - 1 - (i : Int) = ((items.size - 1 - i : Nat) : Int) := by omega
    rw [ej] at hit
    refine enumRev_pyNext he hit hl hx hei fun h' ho hit' hT hk => ?_
    have helt : e < s.heap.objs.size := Heap.lt_size he
    have hilt : it < s.heap.objs.size := by obtain ⟨_, x, _⟩ := hit; exact Heap.lt_size x
    have ej' : ((items.size - 1 - i : Nat) : Int) - 1 = (items.size : Int) - 1 - ((i : Int) + 1) := by omega
    rw [ej'] at hit'
    exact hQ s.heap.objs.size _ h' (s.toks + 1) ⟨_, _, hx, rfl⟩ (Nat.le_refl _) ⟨_, hT, rfl, _, rfl⟩
      ⟨hi, ⟨_, ho⟩, hit', hl.at fun o x => hk l o hle hli x, Nat.ne_of_gt helt, Nat.ne_of_gt hilt⟩
      fun b o hb x => hk b o (fun e' => hb (by simp [e'])) (fun e' => hb (by simp [e'])) x
  go := fun elts k pos i T s Q E hm hQ => by
    obtain ⟨hi, ⟨x, ho⟩, hit, hl, hTe, hTi⟩ := hm
    refine wpAny_letOwnedTupleGo_enum ho fun h' he' hs' => hQ h' ⟨hi, ⟨x, by simpa using he'⟩, by simpa using hit.at fun o y => (hs'.2 it hei.symm).trans y, hl.at fun o y => (hs'.2 l hle).trans y⟩ fun b o hb y => ?_
    exact (hs'.2 b fun e' => hb (by simp [e'])).trans y
  apart := fun i T h hm hT => by
    obtain ⟨_, _, _, _, hTe, hTi⟩ := hm
    rcases List.mem_cons.mp hT with rfl | hT
    · exact hTe rfl
    · rcases List.mem_cons.mp hT with rfl | hT
      · exact hTi rfl
      · cases hT
  done := fun s Q E hst hQ => by
    obtain ⟨_, ⟨old, he⟩, hit, hl⟩ := hst
    have ej : (items.size : Int) - 1 - (items.size : Int) = -1 := by omega
    rw [ej] at hit
    exact enumRev_pyNext_end hh he hit fun h' hx => hQ h' s.toks fun b o hb y => hx b o (fun e' => hb (by simp [e'])) y
  self := fun i s Q E hst hQ => by
    obtain ⟨_, ⟨old, he⟩, _, _⟩ := hst
    exact wpAny_pyIter_enum he hQ
set_option maxHeartbeats 1000000 in
theorem meets_enumerate_newR (I l : Addr) (k : Int) :
    Meets (Builtin.«enumerate.__new__» ⟨[.type "enumerate", .ref I], []⟩) (fun _ R s => s.heap.get? I = some (revObj l k) ∧
      R (.ok (.ret (.ref s.heap.objs.size)))
        { s with heap := s.heap.push { cls := .type "enumerate", data := .fields #[.none, .bool false, .ref I, rawInt 0, .none, .none] } }) :=
  .of_wp fun prog w A R s h => by
    obtain ⟨hp, g, d, tk, os⟩ := s; obtain ⟨hl, h⟩ := h
    have hsub := sub_enumerate
    have hL : Heap.IsRevIter (Shared.heap ⟨hp, g, d, tk, os⟩) I l k := ⟨_, hl, rfl, rfl⟩
    wp_walk using AutoSeq1.wpAny_loadPart' hl
    refine wpAny_stack_any fun st => wpAny_pure ?_
    split
    · rename_i c _ _ _ _ _
      cases (c == Value.type "enumerate")
      · wp_walk using AutoSeq1.wpAny_loadPart' hl, wpAny_pyIter_revIter hL
        exact ⟨_, rfl, h⟩
      · wp_walk using AutoSeq1.wpAny_loadPart' hl, wpAny_pyIter_revIter hL
        exact ⟨_, rfl, h⟩
    · wp_walk using AutoSeq1.wpAny_loadPart' hl, wpAny_pyIter_revIter hL
      exact ⟨_, rfl, h⟩
theorem call_enumerate_rev {prog : Program} {w : World} {A : Around} {E : Value → Shared → Prop} {s : Shared} {I l : Addr} {k : Int} {Q : Value → Shared → Prop} (hl : s.heap.get? I = some (revObj l k))
    (h : ∀ h', IsEnum h' s.heap.objs.size I 0 .none → (∀ b o, s.heap.get? b = some o → h'.get? b = some o) → Q (.ref s.heap.objs.size) { s with heap := h' }) :
    wpAny (model prog w) A (call (.type "enumerate") [.ref I]) Q E s := by
  refine callType_new F.called_enumerate (by decide) (F.typeCall_enumerate_1 _) (F.newCall_enumerate_1 _) (fun obj => F.args_object_init_2 obj _) F.entry_enumerate_new
    (meets_enumerate_newR I l k) ⟨hl, ?_⟩
  have he : IsEnum (s.heap.push { cls := .type "enumerate", data := .fields #[.none, .bool false, .ref I, rawInt 0, .none, .none] }) s.heap.objs.size I 0 .none := Heap.get?_push_size _ rfl
  exact ⟨⟨_, he, rfl⟩, h _ he fun b o x => Heap.get?_push_of_some _ x⟩
section
variable {prog : Program} {w : World} {A : Around} {E : Value → Shared → Prop} {s : Shared} {env : Env} {h₀ : Heap} {body : List Stmt} {Q : Flow → Shared → Prop}
set_option maxHeartbeats 3200000 in
/-- a loop «for i, x in enumerate(reversed(list))» by an invariant; the list stands on the ledger -/
theorem iter_enumRev {xi xc : Str} {pk pv pt : Pos} {x1 : Nat} {I l : Addr} {vs : List Value} {n : Nat} {m₀ : Str → Option Value} {news : List (Addr × Obj)}
    (J : Nat → (Str → Option Value) → List (Addr × Obj) → Prop)
    (hxi : env.kindOf xi = some .local) (hxc : env.kindOf xc = some .local) (hp : (env.scope.kind == .class || (env.scope.kind == .module && env.locals != env.globals)) = false)
    (hh : A.handled = none) (F : Fr h₀ env.locals s.heap m₀) (N : News h₀ env.locals s.heap ((I, revObj l ((vs.length : Int) - 1)) :: news)) (hl : (l, listOf vs.toArray n) ∈ news) (hoff : ∀ p ∈ news, p.1 < I) (hj : J 0 m₀ news)
    (hJl : ∀ i m₁ nx, J i m₁ nx → (l, listOf vs.toArray n) ∈ nx)
    (turn : ∀ i x t m₁ nx h tk own, i < vs.length → x = vs.getD (vs.length - 1 - i) .none → J i m₁ nx → OwnOff own (nx.map (·.1)) →
      Fr h₀ env.locals h (fun y => if y = xc then some x else if y = xi then some (.int i t) else m₁ y) → News h₀ env.locals h (nx ++ own) →
      wpAny (model prog w) A (execs body env) (InvPostG h₀ env.locals (J (i + 1)) own { s with heap := h, toks := tk } Q) E { s with heap := h, toks := tk })
    (done : ∀ m₁ nx h tk, J vs.length m₁ nx → Fr h₀ env.locals h m₁ → News h₀ env.locals h nx → Q .next { s with heap := h, toks := tk }) :
    wpAny (model prog w) A (call (.type "enumerate") [.ref I]) (fun xv s₁ => wpAny (model prog w) A (pyIter xv) (fun it s₂ => TurnsAt prog w A h₀ env (.Tuple [.Name xi pk, .Name xc pv] x1 pt) body Q E it s₂) E s₁) E s := by
  have hIx := N _ List.mem_cons_self
  have hlx := N _ (List.mem_cons_of_mem _ hl)
  have hIlt : I < s.heap.objs.size := Heap.lt_size hIx.1
  have hLs : env.locals < s.heap.objs.size := F.ns.lt
  refine call_enumerate_rev hIx.1 fun h' hE hk => ?_
  refine wpAny_pyIter_enum hE ?_
  have hlI : l ≠ I := Nat.ne_of_lt (hoff _ hl)
  have W := KTurns.ofWalksU (elts := [.Name xi pk, .Name xc pv]) (k := x1) (pos := pt) (walks_enumRev (prog := prog) (w := w) hh s.heap.objs.size I l (Nat.ne_of_gt hIlt) (Nat.ne_of_lt (Heap.lt_size hlx.1)) hlI vs.toArray).toU
  have hlen : vs.toArray.size = vs.length := List.size_toArray ..
  refine ⟨s.heap.objs.size, _, _, _, _, _, _, m₀, news, J, rfl, W, ?_, ?_, ?_, ⟨Nat.zero_le _, ⟨_, hE⟩, ?_, ?_⟩, F.keeps hk, (fun p hp => ⟨hk _ _ (N p (List.mem_cons_of_mem _ hp)).1, (N p (List.mem_cons_of_mem _ hp)).2⟩), hj, ?_, ?_⟩
  · intro hm
    simp only [List.mem_cons, List.mem_nil_iff, or_false] at hm
    rcases hm with e | e | e
    · exact absurd hLs (e ▸ Nat.lt_irrefl _)
    · exact hIx.2.1 e.symm
    · exact hlx.2.1 e.symm
  · intro b hb
    simp only [List.mem_cons, List.mem_nil_iff, or_false] at hb
    rcases hb with rfl | rfl
    · exact next_is_new F
    · exact hIx.2.2
  · intro p hp hb
    simp only [List.mem_cons, List.mem_nil_iff, or_false] at hb
    have h1 := hoff p hp
    rcases hb with e | e
    · exact absurd (Nat.lt_trans h1 hIlt) (e ▸ Nat.lt_irrefl _)
    · exact absurd h1 (e ▸ Nat.lt_irrefl _)
  · refine ⟨revObj l ((vs.length : Int) - 1), hk _ _ hIx.1, rfl, ?_⟩
    rw [hlen, show (vs.length : Int) - 1 - ((0 : Nat) : Int) = (vs.length : Int) - 1 by omega]
    rfl
  · exact ⟨_, hk _ _ hlx.1, rfl, n, rfl⟩
  · rintro i v m₁ nx h₁ tk₁ own hin ⟨T, vals, rfl, ⟨t, x, hx, rfl⟩, hT⟩ hJ hoffs hown hget hall hst F₁ N₁
    rw [hlen] at hin hx
    have hx' : x = vs.getD (vs.length - 1 - i) .none := by
      have := (getD_some (vs := vs) (j := vs.length - 1 - i) (by omega))
      rw [this] at hx; exact (Option.some.inj hx).symm
    have hIe : (s.heap.objs.size, _) ∈ own := hall _ (by simp) (next_is_new F) _ (hst.2.1.choose_spec)
    obtain ⟨oI, hoI, hoIr⟩ := hst.2.2.1
    have hIo : (I, oI) ∈ own := hall _ (by simp) hIx.2.2 _ hoI
    have hlnx := hJl _ _ _ hJ
    have hlo : h₁.get? l = some (listOf vs.toArray n) := (N₁ _ (List.mem_append.mpr (.inr hlnx))).1
    have hsep : OwnOff (own.filter fun p => decide (p.1 ≠ l)) (nx.map (·.1)) := by
      intro p hp b hb e
      obtain ⟨q, hq, rfl⟩ := List.mem_map.mp hb
      obtain ⟨hp1, hp2⟩ := List.mem_filter.mp hp
      have hp2' : p.1 ≠ l := by simpa using hp2
      have h3 := hown p hp1
      simp only [List.mem_cons, List.mem_nil_iff, or_false] at h3
      refine hoffs q hq ?_
      rw [← e]
      rcases h3 with h3 | h3 | h3
      · rw [h3]; simp
      · rw [h3]; simp
      · exact absurd h3 hp2'
    refine wpAny_assign_Tuple hh hT rfl rfl fun h₂ hx₂ => ?_
    have up₂ : ∀ b o, h₁.get? b = some o → h₂.get? b = some o := fun b o e => hx₂ b o (Nat.ne_of_lt (Heap.lt_size e)) e
    have F₂ : Fr h₀ env.locals h₂ m₁ := F₁.keeps up₂
    have N₂ : News h₀ env.locals h₂ (nx ++ own.filter fun p => decide (p.1 ≠ l)) := fun p hp => by
      have z := N₁ p ((List.mem_append.mp hp).elim (fun h => List.mem_append.mpr (.inr h)) fun h => List.mem_append.mpr (.inl (List.mem_filter.mp h).1))
      exact ⟨up₂ _ _ z.1, z.2⟩
    show wpAny _ A (do holding [x] (assign (.Name xi pk) env (.int i t)); do holding [] (assign (.Name xc pv) env x); pure ()) _ _ _
    refine wpAny_bind (wpAny_holding (wpAny_assign_Name (wpAny_storeName_local hxi F₂.ns (fun h₃ hn₃ hs₃ => ?_) hp)))
    have F₃ := F₂.set hn₃ hs₃
    have N₃ := N₂.set hs₃
    refine wpAny_bind (wpAny_holding (wpAny_assign_Name (wpAny_storeName_local hxc F₃.ns (fun h₄ hn₄ hs₄ => wpAny_pure ?_) hp)))
    have F₄ := F₃.set hn₄ hs₄
    have N₄ := N₃.set hs₄
    refine wpAny_mono (turn i x t m₁ nx h₄ _ _ hin hx' hJ hsep F₄ N₄) (fun f s₂ p => ?_) fun _ _ e => e
    have fin : InvEndG h₀ env.locals (J (i + 1)) (own.filter fun p => decide (p.1 ≠ l)) { s with heap := h₄, toks := tk₁ + 1 + 1 } s₂ →
        LoopStepU h₀ env.locals [s.heap.objs.size, I] own (J (i + 1)) { heap := h₁, gens := s.gens, drawn := s.drawn, toks := tk₁, os := s.os } .next s₂ := by
      rintro ⟨h', tk, m', news', nx', e, F', N', hn, ho, ha, hJ'⟩
      refine ⟨rfl, h', tk, m', nx', e, F', fun p hp => ?_, fun p hp hq => ?_, hJ'⟩
      · rcases List.mem_append.mp hp with h | h
        · by_cases hpl : p.1 = l
          · have h2 : h₁.get? p.1 = some p.2 := hget p h
            rw [hpl, hlo] at h2
            have h3 : p = (l, listOf vs.toArray n) := Prod.ext hpl (Option.some.inj h2).symm
            rw [h3]
            exact N' _ (hn _ (hJl _ _ _ hJ'))
          · exact N' p (ho p (List.mem_filter.mpr ⟨h, by simpa using hpl⟩))
        · exact N' p (hn p h)
      · simp only [List.mem_cons, List.mem_nil_iff, or_false] at hq
        have hIl : I ≠ l := Ne.symm hlI
        have hEl : s.heap.objs.size ≠ l := Nat.ne_of_gt (Heap.lt_size hlx.1)
        rcases hq with hq | hq
        · exact ha _ (List.mem_filter.mpr ⟨hIe, by simpa using hEl⟩) p.1 (List.mem_map.mpr ⟨p, hp, rfl⟩) hq.symm
        · exact ha _ (List.mem_filter.mpr ⟨hIo, by simpa using hIl⟩) p.1 (List.mem_map.mpr ⟨p, hp, rfl⟩) hq.symm
    cases f with
    | ret v => exact .ret p
    | brk => exact .brk p
    | next => exact .next (fin p)
    | cont => exact .cont (fin p)
  · rintro h'' tk m' news' F' N' _ hJ
    rw [hlen] at hJ
    exact done m' news' h'' tk hJ F' N'
end
end
local macro_rules | `(tactic| walk_at "zz") => `(tactic| skip)
theorem filled_G : ∀ (w : World) (h : Heap), (hd.heap_39 w.params).In h → PySem.Challenge.rw_bq0029_01.wellSaid = true → True := by
  k_fill
  w_top off
  intros; trivial
section
/-- the least depth at which the value lies -/
def findTop (os : List Op) (o : Op) : Option Nat := os.reverse.findIdx? fun p => p.same o
theorem findTop_some {os : List Op} {o o1 : Op} {i : Nat} (h : os.reverse[i]? = some o1) (hs : o1.same o = true) (hn : ∀ j, j < i → ∀ p, os.reverse[j]? = some p → p.same o = false) : findTop os o = some i := by
  unfold findTop
  obtain ⟨hi, he⟩ := List.getElem?_eq_some_iff.mp h
  rw [List.findIdx?_eq_some_iff_getElem]
  refine ⟨hi, by rw [he]; exact hs, fun j hj => ?_⟩
  have := hn j hj _ (List.getElem?_eq_getElem (Nat.lt_trans hj hi))
  rw [this]; exact Bool.false_ne_true
theorem findTop_none {os : List Op} {o : Op} (hn : ∀ j, j < os.length → ∀ p, os.reverse[j]? = some p → p.same o = false) : findTop os o = none := by
  unfold findTop
  rw [List.findIdx?_eq_none_iff]
  intro p hp
  obtain ⟨j, hj⟩ := List.mem_iff_getElem?.mp hp
  have hlt : j < os.reverse.length := (List.getElem?_eq_some_iff.mp hj).1
  rw [List.length_reverse] at hlt
  exact hn j hlt p hj
def Over (x y : Str) (m₀ m : Str → Option Value) : Prop := ∀ z, z ≠ x → z ≠ y → m z = m₀ z
theorem over_fr {h₀ h : Heap} {L : Addr} {x y : Str} {m₀ m₁ : Str → Option Value} {u v : Option Value} (o : Over x y m₀ m₁) (F : Fr h₀ L h (fun z => if z = y then v else if z = x then u else m₁ z)) : Fr h₀ L h (fun z => if z = y then v else if z = x then u else m₀ z) := by
  have e : (fun z => if z = y then v else if z = x then u else m₁ z) = fun z => if z = y then v else if z = x then u else m₀ z := by
    funext z
    by_cases h1 : z = y
    · simp only [if_pos h1]
    · by_cases h2 : z = x
      · simp only [if_neg h1, if_pos h2]
      · simp only [if_neg h1, if_neg h2]; exact o z h2 h1
  rwa [e] at F
theorem over_done {h₀ h : Heap} {L : Addr} {x y : Str} {m₀ m₁ : Str → Option Value} (o : Over x y m₀ m₁) (F : Fr h₀ L h m₁) : Fr h₀ L h (fun z => if z = y then m₁ y else if z = x then m₁ x else m₀ z) := by
  have e : (fun z => if z = y then m₁ y else if z = x then m₁ x else m₀ z) = m₁ := by
    funext z
    by_cases h1 : z = y
    · rw [if_pos h1, h1]
    · by_cases h2 : z = x
      · rw [if_neg h1, if_pos h2, h2]
      · rw [if_neg h1, if_neg h2]; exact (o z h2 h1).symm
  rwa [e]
theorem over_next {x y : Str} {m₀ : Str → Option Value} {u v : Option Value} : Over x y m₀ (fun z => if z = y then v else if z = x then u else m₀ z) := fun z h1 h2 => by simp only [if_neg h1, if_neg h2]
section
variable {prog : Program} {w : World} {A : Around} {E : Value → Shared → Prop} {s : Shared} {env : Env} {h₀ : Heap} {body : List Stmt} {Q : Flow → Shared → Prop}
theorem iter_enumRevO {xi xc : Str} {pk pv pt : Pos} {x1 : Nat} {I l : Addr} {vs : List Value} {n : Nat} {m₀ : Str → Option Value} {news : List (Addr × Obj)}
    (J : Nat → List (Addr × Obj) → Prop)
    (hxi : env.kindOf xi = some .local) (hxc : env.kindOf xc = some .local) (hp : (env.scope.kind == .class || (env.scope.kind == .module && env.locals != env.globals)) = false)
    (hh : A.handled = none) (F : Fr h₀ env.locals s.heap m₀) (N : News h₀ env.locals s.heap ((I, revObj l ((vs.length : Int) - 1)) :: news)) (hl : (l, listOf vs.toArray n) ∈ news) (hoff : ∀ p ∈ news, p.1 < I) (hj : J 0 news)
    (hJl : ∀ i nx, J i nx → (l, listOf vs.toArray n) ∈ nx)
    (turn : ∀ i x t nx h tk own, i < vs.length → x = vs.getD (vs.length - 1 - i) .none → J i nx → OwnOff own (nx.map (·.1)) →
      Fr h₀ env.locals h (fun y => if y = xc then some x else if y = xi then some (.int i t) else m₀ y) → News h₀ env.locals h (nx ++ own) →
      wpAny (model prog w) A (execs body env) (InvPostG h₀ env.locals (fun m' nx => Over xi xc m₀ m' ∧ J (i + 1) nx) own { s with heap := h, toks := tk } Q) E { s with heap := h, toks := tk })
    (done : ∀ u v nx h tk, J vs.length nx → Fr h₀ env.locals h (fun y => if y = xc then u else if y = xi then v else m₀ y) → News h₀ env.locals h nx → Q .next { s with heap := h, toks := tk }) :
    wpAny (model prog w) A (call (.type "enumerate") [.ref I]) (fun xv s₁ => wpAny (model prog w) A (pyIter xv) (fun it s₂ => TurnsAt prog w A h₀ env (.Tuple [.Name xi pk, .Name xc pv] x1 pt) body Q E it s₂) E s₁) E s :=
  iter_enumRev (fun i m₁ nx => Over xi xc m₀ m₁ ∧ J i nx) hxi hxc hp hh F N hl hoff ⟨fun _ _ _ => rfl, hj⟩ (fun i _ nx h => hJl i nx h.2)
    (fun i x t m₁ nx h tk own a b c d e f => turn i x t nx h tk own a b c.2 d (over_fr c.1 e) f)
    (fun m₁ nx h tk a b c => done _ _ nx h tk a.2 (over_done a.1 b) c)
end
section
variable {w : World} {dp un : Nat} {gd : Option (List Code)} {cn : Str} {cs : Scope} {a : Addr} {ccd : Value} {cl : List (Str × Addr)} {outer : List Env} {A₀ : Around} {base h₀ : Heap} {L : Addr} {m : Str → Option Value} {news news' : List (Addr × Obj)} {s : Shared}
    {mean : ExcName → Option Value} {mg mb : Str → Option Value} {Q E : Value → Shared → Prop}
local macro_rules | `(tactic| walk_at "exec For Tuple Call cons nil") => `(tactic| (k_here; (rename Fr _ _ _ _ => lF'); (with_unfolding_all refine' For_turns lF' ?_; k_whole)))
set_option maxHeartbeats 8000000 in
theorem get_depth_spec {M D S : Addr} {v : Value} {o : Op} {vs : List Value} {os : List Op} {n : Nat}
    (C : Cx w A₀ base h₀ outer L m news s.heap mean mg mb) (hk : cs.kind = .function) (hM : ModelAt w news M D S) (hv : OpIn w news v o) (hdp : dp < 800) (hun : un < 900)
    (hsz : vs.length ≤ 100) (hS : (S, listOf vs.toArray n) ∈ news) (hos : OpsIn w news vs os)
    (ret1 : ∀ i t h' tk', findTop os o = some i → Fr h₀ L h' m → News h₀ L h' news → Q (.int (-(i : Int)) t) { s with heap := h', toks := tk' })
    (ret2 : ∀ h' tk', findTop os o = none → Fr h₀ L h' m → News h₀ L h' news → Q (.ref 165) { s with heap := h', toks := tk' }) :
    wpAny (model PySem.Challenge.rw_bq0029_01.row.prog w) (ktrTop dp un gd cn cs L a ccd cl outer) (call (.ref 209) [.ref M, v]) Q E s := by
  obtain ⟨B, F, X, N, T⟩ := C
  obtain ⟨hi, td, hdd⟩ := hM
  · refine wpAny_call ?_
    k_dflt ktr_enter
    k_steps
    (rename Fr _ _ _ _ => kFr)
    (rename News _ _ _ _ => kNw)
    (rename ∀ p ∈ news, p.1 < _ => kLt')
    k_dflt (refine' iter_enumRevO (fun i nx => nx = news ∧ ∀ j, j < i → ∀ p, os.reverse[j]? = some p → p.same o = false) ?hxi ?hxc ?hp ?hh kFr kNw hS kLt' ?hj ?hJl ?turn ?done)
    case hxi => rfl
    case hxc => rfl
    case hp => rfl
    case hh => rfl
    case hj => exact ⟨rfl, fun _ h => absurd h (Nat.not_lt_zero _)⟩
    case hJl => rintro i nx ⟨rfl, _⟩; exact hS
    case turn =>
      rintro i x t nx h tk own hi' hx ⟨hnx, hno⟩ hoff F₁ N₁
      subst hnx
      clear kFr kNw
      obtain ⟨o1, ho1, hv1⟩ := hos.rev_get hi'
      rw [← hx] at hv1
      k_steps
      · (rename Op.same _ _ = true => hsm)
        (rename News h₀ _ _ _ => kNn)
        exact ret1 i _ _ _ (findTop_some ho1 hsm hno) (by assumption) (fun p hp => kNn p (List.mem_append_left _ hp))
      · have hsm : o1.same o = false := by first | assumption | (simp_all; done)
        refine InvEndG.intro (by assumption) (by assumption) ⟨over_next, rfl, fun j hj p hp => ?_⟩ hoff (fun p hp => List.mem_append_left _ hp) (fun p hp => List.mem_append_right _ hp)
        rcases Nat.lt_or_ge j i with h1 | h1
        · exact hno j h1 p hp
        · obtain rfl : j = i := by omega
          rw [ho1] at hp
          cases hp
          exact hsm
    case done =>
      rintro u v' nx h tk ⟨hnx, hno⟩ F₁ N₁
      subst hnx
      clear kFr kNw
      k_steps
      exact ret2 _ _ (findTop_none (by rw [← hos.length]; exact hno)) (by assumption) (by assumption)
end
end
local macro_rules | `(tactic| walk_at "zz") => `(tactic| skip)
local macro_rules | `(tactic| walk_at "zz") => `(tactic| skip)
theorem filled_CR : ∀ (w : World) (h : Heap), (hd.heap_39 w.params).In h → PySem.Challenge.rw_bq0029_01.wellSaid = true → True := by
  k_fill
  w_top off
  intros; trivial
section
section
variable {prog : Program} {w : World} {A : Around} {h₀ : Heap} {L : Addr} {m : Str → Option Value} {env : Env} {ct elt : Expr} {x : Str} {scope : Scope} {cl : List (Str × Addr)} {s : Shared} {S : List (Addr × Obj) → Prop} {P : Nat → Value → Prop} {Fin : List Value → List (Addr × Obj) → Prop} {news : List (Addr × Obj)}
/-- a comprehension by an invariant over what is made -/
theorem comp_rest {n : Nat} (Z : Nat → List Value → Prop) (h0 : Z 0 [])
    (turn : ∀ i v ys I oI C oC D m₂ h tk (E' : Value → Shared → Prop), i < n → P i v → Z i ys → LCg.NsObj oC m₂ → m₂ x = some v → Fr h₀ L h m → News h₀ L h ((I, oI) :: (C, oC) :: (D, LCg.lst ys) :: news) → LCg.Off3 I C D news → ((@Ne Nat I C) ∧ (@Ne Nat I D) ∧ (@Ne Nat C D)) →
      wpAny (model prog w) A (eval elt (compEnvC scope cl C env)) (LCg.CompEnd h₀ L m { s with heap := h, toks := tk } I oI C oC D (LCg.lst ys) S (fun y news' => news' = news ∧ Z (i + 1) (ys ++ [y]))) E' { s with heap := h, toks := tk })
    (fin : ∀ ys, Z n ys → Fin ys news) : LCg.CompRest prog w A h₀ L m env elt x scope cl s S P Fin n 0 [] news := by
  have key : ∀ (j i : Nat) (ys : List Value), i + j = n → Z i ys → LCg.CompRest prog w A h₀ L m env elt x scope cl s S P Fin j i ys news := by
    intro j
    induction j with
    | zero =>
      intro i ys hi hy
      obtain rfl : i = n := by omega
      exact LCg.CompRest.zero (fin ys hy)
    | succ j ih =>
      intro i ys hi hy
      refine LCg.CompRest.succ ?_
      intro v I oI C oC D m₂ h tk E' hv hC hx F N off ne
      refine wpAny_mono (turn i v ys I oI C oC D m₂ h tk E' (by omega) hv hy hC hx F N off ne) (fun y s₂ hq => ?_) fun _ _ e => e
      obtain ⟨h', tk', nw, e, F', N', off', hS, rfl, hZ⟩ := hq
      exact ⟨h', tk', nw, e, F', N', off', hS, ih (i + 1) _ (by omega) hZ⟩
  exact key n 0 [] (by omega) h0
/-- the same with a test -/
theorem comp_restT {n : Nat} (Z : Nat → List Value → Prop) (h0 : Z 0 [])
    (turn : ∀ i v ys I oI C oC D m₂ h tk (E' : Value → Shared → Prop), i < n → P i v → Z i ys → LCg.NsObj oC m₂ → m₂ x = some v → Fr h₀ L h m → News h₀ L h ((I, oI) :: (C, oC) :: (D, LCg.lst ys) :: news) → LCg.Off3 I C D news → ((@Ne Nat I C) ∧ (@Ne Nat I D) ∧ (@Ne Nat C D)) →
      wpAny (model prog w) A (isTrue ct (compEnvC scope cl C env) (eval ct (compEnvC scope cl C env))) (fun b s' => if b = true then wpAny (model prog w) A (eval elt (compEnvC scope cl C env)) (LCg.CompEnd h₀ L m { s with heap := h, toks := tk } I oI C oC D (LCg.lst ys) S (fun y news' => news' = news ∧ Z (i + 1) (ys ++ [y]))) E' s'
        else LCg.CompEnd h₀ L m { s with heap := h, toks := tk } I oI C oC D (LCg.lst ys) S (fun _ news' => news' = news ∧ Z (i + 1) ys) Value.none s') E' { s with heap := h, toks := tk })
    (fin : ∀ ys, Z n ys → Fin ys news) : LCt.CompRestT prog w A h₀ L m env ct elt x scope cl s S P Fin n 0 [] news := by
  have key : ∀ (j i : Nat) (ys : List Value), i + j = n → Z i ys → LCt.CompRestT prog w A h₀ L m env ct elt x scope cl s S P Fin j i ys news := by
    intro j
    induction j with
    | zero =>
      intro i ys hi hy
      obtain rfl : i = n := by omega
      exact LCt.CompRestT.zero (fin ys hy)
    | succ j ih =>
      intro i ys hi hy
      refine LCt.CompRestT.succ ?_
      intro v I oI C oC D m₂ h tk E' hv hC hx F N off ne
      refine wpAny_mono (turn i v ys I oI C oC D m₂ h tk E' (by omega) hv hy hC hx F N off ne) (fun b s₂ hq => ?_) fun _ _ e => e
      cases b with
      | true =>
        simp only [if_true] at hq ⊢
        refine wpAny_mono hq (fun y s₃ hr => ?_) fun _ _ e => e
        obtain ⟨h', tk', nw, e, F', N', off', hS, rfl, hZ⟩ := hr
        exact ⟨h', tk', nw, e, F', N', off', hS, ih (i + 1) _ (by omega) hZ⟩
      | false =>
        simp only [Bool.false_eq_true, if_false] at hq ⊢
        obtain ⟨h', tk', nw, e, F', N', off', hS, rfl, hZ⟩ := hq
        exact ⟨h', tk', nw, e, F', N', off', hS, ih (i + 1) _ (by omega) hZ⟩
  exact key n 0 [] (by omega) h0
end
/-- values of operands -/
inductive Vals : List Value → List Op → Prop where
  | nil : Vals [] []
  | cons {t : Tok} {o : Op} {vs : List Value} {os : List Op} : Vals vs os → Vals (o.val t :: vs) (o :: os)
theorem Vals.snoc {vs : List Value} {os : List Op} {t : Tok} {o : Op} (h : Vals vs os) : Vals (vs ++ [o.val t]) (os ++ [o]) := by
  induction h with
  | nil => exact .cons .nil
  | cons _ ih => exact .cons ih
theorem Vals.length {vs : List Value} {os : List Op} (h : Vals vs os) : vs.length = os.length := by
  induction h with
  | nil => rfl
  | cons _ ih => simp [ih]
abbrev Op.dat : Op → Dat
  | .lit i => .int i
  | .var x => .str x
  | .lab x => .str x
theorem Vals.dat {news : List (Addr × Obj)} {vs : List Value} {os : List Op} (h : Vals vs os) : DatAll news vs (os.map Op.dat) := by
  induction h with
  | nil => exact .nil
  | @cons t o _ _ _ ih => exact .cons (by cases o <;> constructor) ih
theorem small_ok {o : Op} (h : o.small) : kqdOk 8 o.dat = true := by
  cases o with
  | lit i => rfl
  | var x => rcases h with rfl | rfl | rfl | rfl <;> decide +kernel
  | lab x => rcases h with rfl | rfl <;> decide +kernel
theorem smalls_ok {os : List Op} (h : ∀ o ∈ os, o.small) : ∀ d ∈ os.map Op.dat, kqdOk 8 d = true := by
  intro d hd
  obtain ⟨o, ho, rfl⟩ := List.mem_map.mp hd
  exact small_ok (h o ho)
theorem take_next {os : List Op} {i : Nat} {o : Op} (h : os[i]? = some o) : os.take (i + 1) = os.take i ++ [o] := by
  rw [List.take_add_one, h]; rfl
end
local macro_rules | `(tactic| walk_at "zz") => `(tactic| skip)
theorem filled_SM : ∀ (w : World) (h : Heap), (hd.heap_39 w.params).In h → PySem.Challenge.rw_bq0029_01.wellSaid = true → True := by
  k_fill
  w_top off
  intros; trivial
section
section
variable {w : World} {dp un : Nat} {gd : Option (List Code)} {cn : Str} {cs : Scope} {a : Addr} {ccd : Value} {cl : List (Str × Addr)} {outer : List Env} {A₀ : Around} {base h₀ : Heap} {L : Addr} {m : Str → Option Value} {news news' : List (Addr × Obj)} {s : Shared}
    {mean : ExcName → Option Value} {mg mb : Str → Option Value} {Q E : Value → Shared → Prop}
local macro_rules | `(tactic| walk_at "eval ListComp") => `(tactic| (refine held ?_))
local macro_rules | `(tactic| walk_at "CompSrc") => `(tactic| (refine held ?_))
set_option maxHeartbeats 8000000 in
theorem same_spec {M D S R : Addr} {vs : List Value} {os : List Op} {n n2 : Nat}
    (C : Cx w A₀ base h₀ outer L m news s.heap mean mg mb) (hk : cs.kind = .function) (hM : ModelAt w news M D S) (hdp : dp < 700) (hun : un < 800)
    (hsz : vs.length ≤ 100) (hS : (S, listOf vs.toArray n) ∈ news) (hR : (R, listOf vs.toArray n2) ∈ news) (hos : OpsIn w news vs os) (hsm : ∀ o ∈ os, o.small)
    (ret : ∀ h' tk', Fr h₀ L h' m → News h₀ L h' news → Q (.bool true) { s with heap := h', toks := tk' }) :
    wpAny (model PySem.Challenge.rw_bq0029_01.row.prog w) (ktrTop dp un gd cn cs L a ccd cl outer) (call (.ref 277) [.ref M, .ref R]) Q E s := by
  obtain ⟨B, F, X, N, T⟩ := C
  obtain ⟨hi, td, hdd⟩ := hM
  refine wpAny_call ?_
  walk_at "enterC"
  k_steps
  · (rename Fr _ _ _ _ => kFr)
    unfold Held
    k_dflt (refine LCg.ListComp_U (F₀ := kFr) (by with_unfolding_all rfl) (by decide) (by rfl) (by decide) (by rfl) ?_)
    k_steps
    try clear kFr
    (rename Fr _ _ _ _ => kFr)
    (rename News _ _ _ _ => kNw)
    (rename IsRange _ _ _ _ _ _ _ _ => kRg)
    unfold Held
    k_dflt (refine LCg.CompSrc.range (by rfl) kFr kNw kRg (small_one (by decide) (by decide) (by omega) (by omega)) (rangeSize_nat _ _) (by rw [sizeLine_eq]; omega) ?_)
    intro g1
    refine comp_rest (fun i ys => Vals ys (os.reverse.take i)) .nil ?_ ?_
    · intro i v ys I oI C oC D m₂ h tk E' hi' hP hZ hC hx F₁ N₁ off ne
      obtain ⟨tv, rfl⟩ := hP
      try clear kFr
      try clear kNw
      obtain ⟨o1, ho1, hv1⟩ := hos.rev_get (i := i) (by omega)
      rw [show vs.length - 1 - i = (-(0 + (i : Int)) - 1 + (vs.length : Int)).toNat by omega] at hv1
      k_steps
      refine LCg.CompEnd.intro (by assumption) (by assumption) _ (fun _ hp => hp) off trivial ⟨rfl, ?_⟩
      rw [take_next ho1]
      exact hZ.snoc
    · intro ys1 hZ1
      replace hZ1 : Vals ys1 (os.reverse.take (((vs.length : Int) - 0).toNat)) := hZ1
      rw [List.take_of_length_le (by rw [List.length_reverse, ← hos.length]; omega)] at hZ1
      intro D1 h1 tk1 F₁ N₁ off1
      try clear kFr
      try clear kNw
      k_steps
      unfold Held
      k_dflt (refine LCg.ListComp_U (F₀ := F₁) (by with_unfolding_all rfl) (by decide) (by rfl) (by decide) (by rfl) ?_)
      k_steps
      try clear F₁
      try clear N₁
      (rename Fr _ _ _ _ => kFr)
      (rename News _ _ _ _ => kNw)
      unfold Held
      k_dflt (refine LCg.CompSrc.ledger (by rfl) kFr kNw List.mem_cons_self (by rw [sizeLine_eq, List.size_toArray, List.length_reverse]; omega) ?_)
      intro g2
      refine comp_rest (fun i ys => Vals ys (os.reverse.take i)) .nil ?_ ?_
      · intro i v ys I oI C oC D m₂ h tk E' hi' hP hZ hC hx F₁ N₁ off ne
        rw [List.size_toArray, List.length_reverse] at hi'
        obtain ⟨o1, ho1, hv1⟩ := hos.rev_get (i := i) (by omega)
        have ev : v = vs.getD (vs.length - 1 - i) .none := by
          have := getD_some (vs := vs.reverse) (j := i) (by rw [List.length_reverse]; omega)
          rw [hP] at this
          rw [Option.some.inj this]
          simp [List.getD, List.getElem?_reverse hi']
        rw [← ev] at hv1
        try clear kFr
        try clear kNw
        k_steps
        refine LCg.CompEnd.intro (by assumption) (by assumption) _ (fun _ hp => hp) off (Or.inr ⟨_, List.mem_cons_self, rfl, _, rfl⟩) ⟨rfl, ?_⟩
        rw [take_next ho1]
        exact hZ.snoc
      · intro ys2 hZ2 D2 h2 tk2 F₂ N₂ off2
        replace hZ2 : Vals ys2 (os.reverse.take (vs.reverse.toArray.size)) := hZ2
        rw [List.take_of_length_le (by rw [List.length_reverse, List.size_toArray, List.length_reverse, ← hos.length]; exact Nat.le_refl _)] at hZ2
        have hok : ∀ d ∈ os.reverse.map Op.dat, kqdOk 8 d = true := smalls_ok fun o ho => hsm o (List.mem_reverse.mp ho)
        k_dflt (refine' kqd_eq (oa := LCg.lst ys1) (ob := LCg.lst ys2) (ds := os.reverse.map Op.dat) (es := os.reverse.map Op.dat) N₂ ?ma rfl rfl (hZ1.dat (news := [])) (fun _ h => nomatch h) ?mb rfl rfl (hZ2.dat (news := [])) (fun _ h => nomatch h) hok hok ?hu ?_)
        case ma => k_mem
        case mb => k_mem
        case hu => k_units
        try clear kFr
        try clear kNw
        simp only [decide_true]
        k_steps
        (rename News h₀ _ _ _ => kNn)
        exact ret _ _ (by assumption) (fun p hp => kNn p (by k_mem))
  · rw [beq_self_eq_true]
    (rename News h₀ _ _ _ => kNn)
    exact ret _ _ (by assumption) (fun p hp => kNn p (by k_mem))
end
end
local macro_rules | `(tactic| walk_at "zz") => `(tactic| skip)
local macro_rules | `(tactic| walk_at "zz") => `(tactic| skip)
local macro_rules | `(tactic| walk_at "zz") => `(tactic| skip)
theorem filled_FD : ∀ (w : World) (h : Heap), (hd.heap_39 w.params).In h → PySem.Challenge.rw_bq0029_01.wellSaid = true → True := by
  k_fill
  w_top off
  intros; trivial
section
/-- the places found so far, in their order -/
def Placed (os : List Op) (o : Op) (i : Nat) (ns : List Int) : Prop :=
  (ns = [] ∧ ∀ j, j < i → ∀ p, os.reverse[j]? = some p → p.same o = false) ∨ ∃ k : Nat, ∃ r, ns = (k : Int) :: r ∧ findTop os o = some k
theorem Placed.yes {os : List Op} {o o1 : Op} {i : Nat} {ns : List Int} (h : Placed os o i ns) (h1 : os.reverse[i]? = some o1) (hs : o1.same o = true) : Placed os o (i + 1) (ns ++ [(i : Int)]) := by
  rcases h with ⟨rfl, hn⟩ | ⟨k, r, rfl, hk⟩
  · exact .inr ⟨i, [], rfl, findTop_some h1 hs hn⟩
  · exact .inr ⟨k, r ++ [(i : Int)], rfl, hk⟩
theorem Placed.no {os : List Op} {o o1 : Op} {i : Nat} {ns : List Int} (h : Placed os o i ns) (h1 : os.reverse[i]? = some o1) (hs : o1.same o = false) : Placed os o (i + 1) ns := by
  rcases h with ⟨rfl, hn⟩ | ⟨k, r, rfl, hk⟩
  · refine .inl ⟨rfl, fun j hj p hp => ?_⟩
    rcases Nat.lt_or_ge j i with h2 | h2
    · exact hn j h2 p hp
    · obtain rfl : j = i := by omega
      rw [h1] at hp; cases hp; exact hs
  · exact .inr ⟨k, r, rfl, hk⟩
section
variable {w : World} {dp un : Nat} {gd : Option (List Code)} {cn : Str} {cs : Scope} {a : Addr} {ccd : Value} {cl : List (Str × Addr)} {outer : List Env} {A₀ : Around} {base h₀ : Heap} {L : Addr} {m : Str → Option Value} {news news' : List (Addr × Obj)} {s : Shared}
    {mean : ExcName → Option Value} {mg mb : Str → Option Value} {Q E : Value → Shared → Prop}
local macro_rules | `(tactic| walk_at "exec Assign cons ListComp") => `(tactic| (refine held ?_))
local macro_rules | `(tactic| walk_at "CompSrcT") => `(tactic| (refine held ?_))
set_option maxHeartbeats 8000000 in
theorem found_spec {R : Addr} {v : Value} {o : Op} {vs : List Value} {os : List Op} {n2 : Nat}
    (C : Cx w A₀ base h₀ outer L m news s.heap mean mg mb) (hk : cs.kind = .function) (hv : OpIn w news v o) (hdp : dp < 700) (hun : un < 800)
    (hsz : vs.length ≤ 100) (hR : (R, listOf vs.toArray n2) ∈ news) (hos : OpsIn w news vs os)
    (ret1 : ∀ i t h' tk', findTop os o = some i → Fr h₀ L h' m → News h₀ L h' news → Q (.int (-(i : Int)) t) { s with heap := h', toks := tk' })
    (ret2 : ∀ h' tk', findTop os o = none → Fr h₀ L h' m → News h₀ L h' news → Q .none { s with heap := h', toks := tk' }) :
    wpAny (model PySem.Challenge.rw_bq0029_01.row.prog w) (ktrTop dp un gd cn cs L a ccd cl outer) (call (.ref 282) [.ref R, v]) Q E s := by
  obtain ⟨B, F, X, N, T⟩ := C
  refine wpAny_call ?_
  walk_at "enterC"
  k_steps
  (rename Fr _ _ _ _ => kFr)
  unfold Held
  k_dflt (refine LCt.Assign_ListComp_T (F₀ := kFr) (by rfl) (by with_unfolding_all rfl) (by with_unfolding_all rfl) (by decide) (by rfl) (by decide) (by rfl) (by rfl) (by rfl) ?_)
  k_steps
  try clear kFr
  (rename Fr _ _ _ _ => kFr)
  (rename News _ _ _ _ => kNw)
  (rename IsRange _ _ _ _ _ _ _ _ => kRg)
  unfold Held
  k_dflt (refine LCt.CompSrcT.range (by rfl) kFr kNw kRg (small_one (by decide) (by decide) (by omega) (by omega)) (rangeSize_nat _ _) (by rw [sizeLine_eq]; omega) ?_)
  intro g1
  refine comp_restT (fun i ys => ∃ ns, IntsAre ys ns ∧ Placed os o i ns) ⟨[], .nil, .inl ⟨rfl, fun _ h => absurd h (Nat.not_lt_zero _)⟩⟩ ?_ ?_
  · intro i u ys I oI C oC D m₂ h tk E' hi' hP hZ hC hx F₁ N₁ off ne
    obtain ⟨tv, rfl⟩ := hP
    obtain ⟨ns, hI, hPl⟩ := hZ
    try clear kFr
    try clear kNw
    obtain ⟨o1, ho1, hv1⟩ := hos.rev_get (i := i) (by omega)
    rw [show vs.length - 1 - i = ((vs.length : Int) - 1 - (0 + (i : Int))).toNat by omega] at hv1
    k_steps
    · refine LCg.CompEnd.intro (by assumption) (by assumption) _ (fun _ hp => hp) off trivial ⟨rfl, ns ++ [(i : Int)], ?_, hPl.yes ho1 (by assumption)⟩
      rw [Int.zero_add]
      exact hI.append (.cons _ _ .nil)
    · refine LCg.CompEnd.intro (by assumption) (by assumption) _ (fun _ hp => hp) off trivial ⟨rfl, ns, hI, hPl.no ho1 (by first | assumption | (simp_all; done))⟩
  · intro ys hZ
    obtain ⟨ns, hI, hPl⟩ := hZ
    intro D1 h1 tk1 F₁ N₁ off1
    try clear kFr
    try clear kNw
    rcases hPl with ⟨rfl, hn⟩ | ⟨k, r, rfl, hk1⟩
    · have ht : findTop os o = none := findTop_none fun j hj p hp => hn j (by rw [← hos.length] at hj; omega) p hp
      cases hI
      k_steps
      (rename News h₀ _ _ _ => kNn)
      exact ret2 _ _ ht (by assumption) (fun p hp => kNn p (by k_mem))
    · cases hI with
      | cons _ tt hI' =>
        k_steps
        · exfalso; simp_all
        · (rename News h₀ _ _ _ => kNn)
          exact ret1 k _ _ _ hk1 (by assumption) (fun p hp => kNn p (by k_mem))
end
end
local macro_rules | `(tactic| walk_at "zz") => `(tactic| skip)
local macro_rules | `(tactic| walk_at "zz") => `(tactic| skip)
local macro_rules | `(tactic| walk_at "zz") => `(tactic| skip)
theorem filled_TF : ∀ (w : World) (h : Heap), (hd.heap_39 w.params).In h → PySem.Challenge.rw_bq0029_01.wellSaid = true → True := by
  k_fill
  w_top off
  intros; trivial
section
theorem slot_type_format : Slot "type" "__format__" "object.__format__" :=
  .of (owner := "object") (n := "__format__") (by rw [typeLookup_type, builtinLookup_eq_fast]; kernel_rfl) (by decide +kernel) (by decide +kernel) (by decide +kernel)
    (by first | exact .inl (by decide +kernel) | exact .inr (by decide +kernel)) (by rw [isSubtype_type]; kernel_rfl)
theorem slot_type_str : Slot "type" "__str__" "object.__str__" :=
  .of (owner := "object") (n := "__str__") (by rw [typeLookup_type, builtinLookup_eq_fast]; kernel_rfl) (by decide +kernel) (by decide +kernel) (by decide +kernel)
    (by first | exact .inl (by decide +kernel) | exact .inr (by decide +kernel)) (by rw [isSubtype_type]; kernel_rfl)
theorem slot_type_repr : Slot "type" "__repr__" "type.__repr__" :=
  .of (owner := "type") (n := "__repr__") (by rw [typeLookup_type, builtinLookup_eq_fast]; kernel_rfl) (by decide +kernel) (by decide +kernel) (by decide +kernel)
    (by first | exact .inl (by decide +kernel) | exact .inr (by decide +kernel)) (by rw [isSubtype_type]; kernel_rfl)
theorem entry_type_repr : entryFor table "type.__repr__" = some Builtin.«type.__repr__» := entryFor_of_tree (by kernel_rfl)
theorem args_type_repr (a : Value) : argsOk "type.__repr__" ⟨[a], []⟩ := by unfold argsOk; kernel_rfl
section
variable {prog : Program} {w : World} {A : Around} {E : Value → Shared → Prop} {s : Shared}
theorem type_field {T : String} {x sp : Str} {Q : Value → Shared → Prop} (hT : ∀ s' : Shared, s'.TypeIs (.type T) "type") (hu : A.units + 2 < cLine)
    (hx2 : Str.ofString (s!"<class '{T}'>") = x) (hz : x.length ≤ sizeLine) (hsp : sp = Str.empty) (h : ∀ t tk, Q (.str x t) { s with toks := tk }) : wpAny (model prog w) A (formatField (.type T) sp) Q E s := by
  subst hsp
  refine wpAny_formatField_slot (fun _ _ => nofun) hu (hT s) slot_type_format slot_type_str slot_type_repr.toG ?_
  refine wpAny_call_entry slot_type_repr (hT _) entry_type_repr ?_ (args_type_repr _)
  show wpAny _ _ (PySem.retStr (Str.ofString (s!"<class '{T}'>"))) _ _ _
  rw [hx2]
  unfold retStr
  refine wpAny_bind (wpAny_mkStr ?_ hz)
  exact wpAny_pure ⟨_, rfl, _, _, rfl, h _ _⟩
end
-- <mac>
local macro_rules | `(tactic| walk_at "formatField type:int") => `(tactic| (k_here; k_dflt (refine' type_field (T := "int") (x := Str.ofString "<class 'int'>") TypeEq.meta_int ?hu ?h1 ?h2 ?h3 ?_; (case hu => k_units); (case h1 => decide +kernel); (case h2 => decide +kernel); (case h3 => first | with_reducible rfl | rfl)); intro t' tk'))
local macro_rules | `(tactic| walk_at "formatField type:str") => `(tactic| (k_here; k_dflt (refine' type_field (T := "str") (x := Str.ofString "<class 'str'>") TypeEq.meta_str ?hu ?h1 ?h2 ?h3 ?_; (case hu => k_units); (case h1 => decide +kernel); (case h2 => decide +kernel); (case h3 => first | with_reducible rfl | rfl)); intro t' tk'))
-- </mac>
section
variable {prog : Program} {w : World} {A₀ A : Around} {s : Shared} {h₀ base : Heap} {L a : Addr} {m : Str → Option Value} {cn : Str} {cs : Scope} {ccd : Value} {cl : List (Str × Addr)} {news : List (Addr × Obj)} {K : Frag} {p : Program} {loose : List Str} {mean : ExcName → Option Value} {mg mb : Str → Option Value}
    {R : Result → Shared → Prop} {name qual : Str} {params : Arguments} {body : List Stmt} {scope : Scope} {dV kV doc pm cdv ct oc : Value} {an od : Option Addr} {osl : Array (Option Value)} {f : Addr} {args : Args} {binds : List (Str × Value)}
/-- a def that may catch, called from the lowest frame, which may hold cells -/
theorem enter_try (B : Below A₀ base [] h₀) (F : Fr h₀ L s.heap m) (X₀ : K.In h₀) (N : News h₀ L s.heap news) (T : Top p loose mean mg mb h₀) (hA : A.frames = some [envX cn cs L a ccd cl])
    (ho : K.lookup f = some ⟨oc, od, .func (fnOf name qual params body scope dV kV doc pm an cdv ct), osl⟩) (hcd : codeIn K cdv qual = true) (hroom : A.depth < recursionLimit)
    (hbind : BindsTo s (fnOf name qual params body scope dV kV doc pm an cdv ct) args binds) (hloc : ∀ y ∈ binds, scope.names.lookup y.1 = some .local)
    (h : ∀ g L' h₁, Fr h₀ L g m → Fr g L' h₁ (fun y => binds.reverse.lookup y) → News g L' h₁ news → Below A base [envX cn cs L a ccd cl] g → K.In g → Top p loose mean mg mb g → KtsDicts ([envX cn cs L a ccd cl].filterMap (·.frame)) g →
      wpAny (model prog w) (A.deeper (envOf qual scope L' f cdv)) (execs body (envOf qual scope L' f cdv))
        (fun fl s' => LeaveS0 ([envX cn cs L a ccd cl].filterMap (·.frame)) h₀ L m g R (match fl with | .ret v => v | _ => .none) s')
        (fun e s' => wpAny (model prog w) (A.deeper (envOf qual scope L' f cdv)) (leaving (envOf qual scope L' f cdv) e) (fun _ s'' => R (.error e) s'') (fun e' s'' => R (.error e') s'') s')
        { s with heap := h₁, toks := s.toks + binds.length })
    (hck : cs.kind = .function) (hco : scope.isCoroutine = false) (hgen : scope.isGenerator = false) (hk : scope.kind = .function)
    (hcell : ∀ x ∈ scope.names, x.2 ≠ .cell) : codeAny (model prog w) A (.call (.ref f) args) R s := by
  have X := X₀.keeps F.keep
  refine codeAny_call_def (fd := fnOf name qual params body scope dV kV doc pm an cdv ct) (body := body) (binds := binds) hroom (X _ _ ho) rfl (T.nolimit.keeps F.keep) (codeRec_of X hcd) rfl hbind hcell hloc (fun h₁ hns hk₁ => ?_) hco hgen hk
  obtain ⟨oL, es, ep, hLg, hLd, hN, hNs, st, B₁⟩ := kts_enter (A := A₀.deeper (envOf cn cs L a ccd)) B F N (Around.frames_deeper B.stack) hck
  have B₂ : Below A base [envX cn cs L a ccd cl] (hideAll s.heap (news.map (·.1))) := ⟨hA, B₁.stays, B₁.frames⟩
  have hmem : ∀ b, b ∈ [envX cn cs L a ccd cl].filterMap (·.frame) → b = L := fun b hb => by simpa [envX, envOf] using hb
  refine wpAny_mono (h _ s.heap.objs.size h₁ ⟨hN _ hLg, st, F.above⟩ ⟨hns, fun b o e => hk₁ b o (of_hideAll _ e), Nat.le_of_eq (hideAll_size _ _)⟩
    (fun p hp => ⟨hk₁ _ _ (N p hp).1, Nat.ne_of_lt (Heap.lt_size (N p hp).1), hideAll_none _ (List.mem_map_of_mem hp)⟩) B₂ (X₀.keeps st) (T.keeps st) (fun b hb => by
      rw [hmem b hb]
      exact ⟨oL, es, ep, hLg, hLd⟩)) (fun fl s' hl => ?_) fun _ _ y => y
  obtain ⟨g', L', m', news', T', F', N', k⟩ := hl
  have nL₀ : h₀.get? L = none := kts_self F
  obtain ⟨sl, hs⟩ := T'.up hLg
  refine k ⟨hNs sl _ (F'.keep _ _ hs), fun b o e => F'.keep b o (T'.other b o (st b o e) (fun q => by
    rw [hmem b q, nL₀] at e
    cases e)), F.above⟩ fun p hp => ⟨(N' p hp).1, fun q => ?_, ?_⟩
  · have := (N' p hp).2.2
    rw [q, hs] at this
    cases this
  · cases q : h₀.get? p.1 with
    | none => rfl
    | some o =>
      obtain ⟨sl', hs'⟩ := T'.up (st _ _ q)
      have := (N' p hp).2.2
      rw [hs'] at this
      cases this
end
-- <mac>
local macro_rules | `(tactic| walk_at "enterT") => `(tactic| k_dflt (refine' enter_try ?k1 ?k2 ?k3 ?k4 ?k5 ?kA ?k6 ?k7 ?k8 ?k9 ?kB ?_ ?cK ?c2 ?c3 ?c4 ?c5; (case kA => exact rfl); (case k2 => k_asm); (case k1 => k_asm); (case k3 => k_asm); (case k4 => k_asm); (case k5 => k_asm); (case k6 => k_is); (case k7 => k_is); (case k8 => k_room); (case k9 => exact BindsTo.of_eq rfl); (case kB => exact locs rfl); (case cK => assumption); (case c2 => exact rfl); (case c3 => exact rfl); (case c4 => exact rfl); (case c5 => decide); k_whole; intro g' L' h' FG' F' N' B' X' T' D'; (try dsimp only); (try k_lift B'); (try k_fold)))
-- </mac>
end
local macro_rules | `(tactic| walk_at "formatField type:int") => `(tactic| (k_here; k_dflt (refine' type_field (T := "int") (x := Str.ofString "<class 'int'>") TypeEq.meta_int ?hu ?h1 ?h2 ?h3 ?_; (case hu => k_units); (case h1 => decide +kernel); (case h2 => decide +kernel); (case h3 => first | with_reducible rfl | rfl)); intro t' tk'))
local macro_rules | `(tactic| walk_at "formatField type:str") => `(tactic| (k_here; k_dflt (refine' type_field (T := "str") (x := Str.ofString "<class 'str'>") TypeEq.meta_str ?hu ?h1 ?h2 ?h3 ?_; (case hu => k_units); (case h1 => decide +kernel); (case h2 => decide +kernel); (case h3 => first | with_reducible rfl | rfl)); intro t' tk'))
local macro_rules | `(tactic| walk_at "enterT") => `(tactic| k_dflt (refine' enter_try ?k1 ?k2 ?k3 ?k4 ?k5 ?kA ?k6 ?k7 ?k8 ?k9 ?kB ?_ ?cK ?c2 ?c3 ?c4 ?c5; (case kA => exact rfl); (case k2 => k_asm); (case k1 => k_asm); (case k3 => k_asm); (case k4 => k_asm); (case k5 => k_asm); (case k6 => k_is); (case k7 => k_is); (case k8 => k_room); (case k9 => exact BindsTo.of_eq rfl); (case kB => exact locs rfl); (case cK => assumption); (case c2 => exact rfl); (case c3 => exact rfl); (case c4 => exact rfl); (case c5 => decide); k_whole; intro g' L' h' FG' F' N' B' X' T' D'; (try dsimp only); (try k_lift B'); (try k_fold)))
local macro_rules | `(tactic| walk_at "zz") => `(tactic| skip)
local macro_rules | `(tactic| walk_at "zz") => `(tactic| skip)
local macro_rules | `(tactic| walk_at "zz") => `(tactic| skip)
local macro_rules | `(tactic| walk_at "zz") => `(tactic| skip)
theorem filled_RF : ∀ (w : World) (h : Heap), (hd.heap_39 w.params).In h → PySem.Challenge.rw_bq0029_01.wellSaid = true → True := by
  k_fill
  w_top off
  intros; trivial
section
section
variable {w : World} {dp un : Nat} {gd : Option (List Code)} {cn : Str} {cs : Scope} {a : Addr} {ccd : Value} {cl : List (Str × Addr)} {A₀ : Around} {h₀ : Heap} {L : Addr} {m : Str → Option Value} {news news' : List (Addr × Obj)} {s : Shared}
    {mean : ExcName → Option Value} {mg mb : Str → Option Value} {Q E : Value → Shared → Prop}
set_option maxHeartbeats 8000000 in
theorem refused_0 {M D S : Addr} {t : Tok}
    (C : Cx w A₀ h₀ h₀ [] L m news s.heap mean mg mb) (hk : cs.kind = .function) (hM : ModelAt w news M D S) (hdp : dp < 700) (hun : un < 800)
    (ret : ∀ h' tk', Fr h₀ L h' m → News h₀ L h' news → Q (.bool true) { s with heap := h', toks := tk' }) :
    wpAny (model PySem.Challenge.rw_bq0029_01.row.prog w) (ktrTop dp un gd cn cs L a ccd cl []) (call (.ref 296) [.ref M, .int 0 t]) Q E s := by
  obtain ⟨B, F, X, N, T⟩ := C
  obtain ⟨hi, td, hdd⟩ := hM
  refine wpAny_call ?_
  walk_at "enterT"
  k_steps
  (rename News h₀ _ _ _ => kNn)
  exact ret _ _ (by assumption) (fun p hp => kNn p (by k_mem))
set_option maxHeartbeats 8000000 in
theorem refused_1 {M D S : Addr} {t : Tok}
    (C : Cx w A₀ h₀ h₀ [] L m news s.heap mean mg mb) (hk : cs.kind = .function) (hM : ModelAt w news M D S) (hdp : dp < 700) (hun : un < 800)
    (ret : ∀ h' tk', Fr h₀ L h' m → News h₀ L h' news → Q (.bool true) { s with heap := h', toks := tk' }) :
    wpAny (model PySem.Challenge.rw_bq0029_01.row.prog w) (ktrTop dp un gd cn cs L a ccd cl []) (call (.ref 296) [.ref M, .int 1 t]) Q E s := by
  obtain ⟨B, F, X, N, T⟩ := C
  obtain ⟨hi, td, hdd⟩ := hM
  refine wpAny_call ?_
  walk_at "enterT"
  k_steps
  (rename News h₀ _ _ _ => kNn)
  exact ret _ _ (by assumption) (fun p hp => kNn p (by k_mem))
set_option maxHeartbeats 8000000 in
theorem refused_2 {M D S : Addr} {t : Tok}
    (C : Cx w A₀ h₀ h₀ [] L m news s.heap mean mg mb) (hk : cs.kind = .function) (hM : ModelAt w news M D S) (hdp : dp < 700) (hun : un < 800)
    (ret : ∀ h' tk', Fr h₀ L h' m → News h₀ L h' news → Q (.bool true) { s with heap := h', toks := tk' }) :
    wpAny (model PySem.Challenge.rw_bq0029_01.row.prog w) (ktrTop dp un gd cn cs L a ccd cl []) (call (.ref 296) [.ref M, .int 2 t]) Q E s := by
  obtain ⟨B, F, X, N, T⟩ := C
  obtain ⟨hi, td, hdd⟩ := hM
  refine wpAny_call ?_
  walk_at "enterT"
  k_steps
  (rename News h₀ _ _ _ => kNn)
  exact ret _ _ (by assumption) (fun p hp => kNn p (by k_mem))
set_option maxHeartbeats 8000000 in
theorem refused_3 {M D S : Addr} {t : Tok}
    (C : Cx w A₀ h₀ h₀ [] L m news s.heap mean mg mb) (hk : cs.kind = .function) (hM : ModelAt w news M D S) (hdp : dp < 700) (hun : un < 800)
    (ret : ∀ h' tk', Fr h₀ L h' m → News h₀ L h' news → Q (.bool true) { s with heap := h', toks := tk' }) :
    wpAny (model PySem.Challenge.rw_bq0029_01.row.prog w) (ktrTop dp un gd cn cs L a ccd cl []) (call (.ref 296) [.ref M, .int 3 t]) Q E s := by
  obtain ⟨B, F, X, N, T⟩ := C
  obtain ⟨hi, td, hdd⟩ := hM
  refine wpAny_call ?_
  walk_at "enterT"
  k_steps
  (rename News h₀ _ _ _ => kNn)
  exact ret _ _ (by assumption) (fun p hp => kNn p (by k_mem))
set_option maxHeartbeats 8000000 in
theorem refused_4 {M D S : Addr} {t : Tok}
    (C : Cx w A₀ h₀ h₀ [] L m news s.heap mean mg mb) (hk : cs.kind = .function) (hM : ModelAt w news M D S) (hdp : dp < 700) (hun : un < 800)
    (ret : ∀ h' tk', Fr h₀ L h' m → News h₀ L h' news → Q (.bool true) { s with heap := h', toks := tk' }) :
    wpAny (model PySem.Challenge.rw_bq0029_01.row.prog w) (ktrTop dp un gd cn cs L a ccd cl []) (call (.ref 296) [.ref M, .int 4 t]) Q E s := by
  obtain ⟨B, F, X, N, T⟩ := C
  obtain ⟨hi, td, hdd⟩ := hM
  refine wpAny_call ?_
  walk_at "enterT"
  k_steps
  (rename News h₀ _ _ _ => kNn)
  exact ret _ _ (by assumption) (fun p hp => kNn p (by k_mem))
set_option maxHeartbeats 8000000 in
theorem refused_5 {M D S : Addr} {t : Tok}
    (C : Cx w A₀ h₀ h₀ [] L m news s.heap mean mg mb) (hk : cs.kind = .function) (hM : ModelAt w news M D S) (hdp : dp < 700) (hun : un < 800)
    (ret : ∀ h' tk', Fr h₀ L h' m → News h₀ L h' news → Q (.bool true) { s with heap := h', toks := tk' }) :
    wpAny (model PySem.Challenge.rw_bq0029_01.row.prog w) (ktrTop dp un gd cn cs L a ccd cl []) (call (.ref 296) [.ref M, .int 5 t]) Q E s := by
  obtain ⟨B, F, X, N, T⟩ := C
  obtain ⟨hi, td, hdd⟩ := hM
  refine wpAny_call ?_
  walk_at "enterT"
  k_steps
  (rename News h₀ _ _ _ => kNn)
  exact ret _ _ (by assumption) (fun p hp => kNn p (by k_mem))
set_option maxHeartbeats 8000000 in
theorem refused_6 {M D S : Addr} {t : Tok}
    (C : Cx w A₀ h₀ h₀ [] L m news s.heap mean mg mb) (hk : cs.kind = .function) (hM : ModelAt w news M D S) (hdp : dp < 700) (hun : un < 800)
    (ret : ∀ h' tk', Fr h₀ L h' m → News h₀ L h' news → Q (.bool true) { s with heap := h', toks := tk' }) :
    wpAny (model PySem.Challenge.rw_bq0029_01.row.prog w) (ktrTop dp un gd cn cs L a ccd cl []) (call (.ref 296) [.ref M, .int 6 t]) Q E s := by
  obtain ⟨B, F, X, N, T⟩ := C
  obtain ⟨hi, td, hdd⟩ := hM
  refine wpAny_call ?_
  walk_at "enterT"
  k_steps
  (rename News h₀ _ _ _ => kNn)
  exact ret _ _ (by assumption) (fun p hp => kNn p (by k_mem))
set_option maxHeartbeats 8000000 in
theorem refused_7 {M D S : Addr} {t : Tok}
    (C : Cx w A₀ h₀ h₀ [] L m news s.heap mean mg mb) (hk : cs.kind = .function) (hM : ModelAt w news M D S) (hdp : dp < 700) (hun : un < 800)
    (ret : ∀ h' tk', Fr h₀ L h' m → News h₀ L h' news → Q (.bool true) { s with heap := h', toks := tk' }) :
    wpAny (model PySem.Challenge.rw_bq0029_01.row.prog w) (ktrTop dp un gd cn cs L a ccd cl []) (call (.ref 296) [.ref M, .int 7 t]) Q E s := by
  obtain ⟨B, F, X, N, T⟩ := C
  obtain ⟨hi, td, hdd⟩ := hM
  refine wpAny_call ?_
  walk_at "enterT"
  k_steps
  (rename News h₀ _ _ _ => kNn)
  exact ret _ _ (by assumption) (fun p hp => kNn p (by k_mem))
set_option maxHeartbeats 8000000 in
theorem refused_8 {M D S : Addr} {t : Tok}
    (C : Cx w A₀ h₀ h₀ [] L m news s.heap mean mg mb) (hk : cs.kind = .function) (hM : ModelAt w news M D S) (hdp : dp < 700) (hun : un < 800)
    (ret : ∀ h' tk', Fr h₀ L h' m → News h₀ L h' news → Q (.bool true) { s with heap := h', toks := tk' }) :
    wpAny (model PySem.Challenge.rw_bq0029_01.row.prog w) (ktrTop dp un gd cn cs L a ccd cl []) (call (.ref 296) [.ref M, .int 8 t]) Q E s := by
  obtain ⟨B, F, X, N, T⟩ := C
  obtain ⟨hi, td, hdd⟩ := hM
  refine wpAny_call ?_
  walk_at "enterT"
  k_steps
  (rename News h₀ _ _ _ => kNn)
  exact ret _ _ (by assumption) (fun p hp => kNn p (by k_mem))
set_option maxHeartbeats 8000000 in
theorem refused_9 {M D S : Addr} {t : Tok}
    (C : Cx w A₀ h₀ h₀ [] L m news s.heap mean mg mb) (hk : cs.kind = .function) (hM : ModelAt w news M D S) (hdp : dp < 700) (hun : un < 800)
    (ret : ∀ h' tk', Fr h₀ L h' m → News h₀ L h' news → Q (.bool true) { s with heap := h', toks := tk' }) :
    wpAny (model PySem.Challenge.rw_bq0029_01.row.prog w) (ktrTop dp un gd cn cs L a ccd cl []) (call (.ref 296) [.ref M, .int 9 t]) Q E s := by
  obtain ⟨B, F, X, N, T⟩ := C
  obtain ⟨hi, td, hdd⟩ := hM
  refine wpAny_call ?_
  walk_at "enterT"
  k_steps
  (rename News h₀ _ _ _ => kNn)
  exact ret _ _ (by assumption) (fun p hp => kNn p (by k_mem))
set_option maxHeartbeats 8000000 in
theorem refused_10 {M D S : Addr} {t : Tok}
    (C : Cx w A₀ h₀ h₀ [] L m news s.heap mean mg mb) (hk : cs.kind = .function) (hM : ModelAt w news M D S) (hdp : dp < 700) (hun : un < 800)
    (ret : ∀ h' tk', Fr h₀ L h' m → News h₀ L h' news → Q (.bool true) { s with heap := h', toks := tk' }) :
    wpAny (model PySem.Challenge.rw_bq0029_01.row.prog w) (ktrTop dp un gd cn cs L a ccd cl []) (call (.ref 296) [.ref M, .int 10 t]) Q E s := by
  obtain ⟨B, F, X, N, T⟩ := C
  obtain ⟨hi, td, hdd⟩ := hM
  refine wpAny_call ?_
  walk_at "enterT"
  k_steps
  (rename News h₀ _ _ _ => kNn)
  exact ret _ _ (by assumption) (fun p hp => kNn p (by k_mem))
theorem refused_spec {M D S : Addr} {kd : Int} {t : Tok}
    (C : Cx w A₀ h₀ h₀ [] L m news s.heap mean mg mb) (hk : cs.kind = .function) (hM : ModelAt w news M D S) (hdp : dp < 700) (hun : un < 800)
    (h0 : 0 ≤ kd) (h1 : kd < 11)
    (ret : ∀ h' tk', Fr h₀ L h' m → News h₀ L h' news → Q (.bool true) { s with heap := h', toks := tk' }) :
    wpAny (model PySem.Challenge.rw_bq0029_01.row.prog w) (ktrTop dp un gd cn cs L a ccd cl []) (call (.ref 296) [.ref M, .int kd t]) Q E s := by
  have hc : kd = 0 ∨ kd = 1 ∨ kd = 2 ∨ kd = 3 ∨ kd = 4 ∨ kd = 5 ∨ kd = 6 ∨ kd = 7 ∨ kd = 8 ∨ kd = 9 ∨ kd = 10 := by omega
  clear h0 h1
  rcases hc with rfl | rfl | rfl | rfl | rfl | rfl | rfl | rfl | rfl | rfl | rfl
  · exact refused_0 C hk hM hdp hun ret
  · exact refused_1 C hk hM hdp hun ret
  · exact refused_2 C hk hM hdp hun ret
  · exact refused_3 C hk hM hdp hun ret
  · exact refused_4 C hk hM hdp hun ret
  · exact refused_5 C hk hM hdp hun ret
  · exact refused_6 C hk hM hdp hun ret
  · exact refused_7 C hk hM hdp hun ret
  · exact refused_8 C hk hM hdp hun ret
  · exact refused_9 C hk hM hdp hun ret
  · exact refused_10 C hk hM hdp hun ret
end
end
local macro_rules | `(tactic| walk_at "zz") => `(tactic| skip)
theorem filled_EQ : ∀ (w : World) (h : Heap), (hd.heap_39 w.params).In h → PySem.Challenge.rw_bq0029_01.wellSaid = true → True := by
  k_fill
  w_top off
  intros; trivial
section
section
variable {w : World} {dp un : Nat} {gd : Option (List Code)} {cn : Str} {cs : Scope} {a : Addr} {ccd : Value} {cl : List (Str × Addr)} {outer : List Env} {A₀ : Around} {base h₀ : Heap} {L : Addr} {m : Str → Option Value} {news news' : List (Addr × Obj)} {s : Shared}
    {mean : ExcName → Option Value} {mg mb : Str → Option Value} {Q E : Value → Shared → Prop}
local macro_rules | `(tactic| walk_at "compareOp Eq str") => `(tactic| (k_here; (with_reducible show wpAny _ _ (compareOp _ _ (Op.val _ _)) _ _ _); k_dflt (refine op_eq (o := Op.var _) ?_)))
set_option maxHeartbeats 8000000 in
theorem eq_spec {x : Addr} {v : Value} {c : Str} {o : Op}
    (C : Cx w A₀ base h₀ outer L m news s.heap mean mg mb) (hk : cs.kind = .function) (hx : OpIn w news (.ref x) (.var c)) (hv : OpIn w news v o) (hdp : dp < 800) (hun : un < 900)
    (ret : ∀ h' tk', Fr h₀ L h' m → News h₀ L h' news → Q (.bool (o.isVar && (Op.var c).same o)) { s with heap := h', toks := tk' }) :
    wpAny (model PySem.Challenge.rw_bq0029_01.row.prog w) (ktrTop dp un gd cn cs L a ccd cl outer) (call (.ref 57) [.ref x, v]) Q E s := by
  obtain ⟨B, F, X, N, T⟩ := C
  have hx' := hx
  cases hx' with
  | var hi hd1 =>
    refine wpAny_call ?_
    k_dflt ktr_enter
    k_steps
    all_goals (rename Op.isVar o = _ => hvar; rw [hvar] at ret)
    · rw [Bool.true_and] at ret
      exact ret _ _ (by assumption) (by assumption)
    · rw [Bool.false_and] at ret
      exact ret _ _ (by assumption) (by assumption)
end
end
local macro_rules | `(tactic| walk_at "zz") => `(tactic| skip)
local macro_rules | `(tactic| walk_at "zz") => `(tactic| skip)
theorem filled_IN : ∀ (w : World) (h : Heap), (hd.heap_39 w.params).In h → PySem.Challenge.rw_bq0029_01.wellSaid = true → True := by
  k_fill
  w_top off
  intros; trivial
section
/-- the ledger tells an operand once -/
theorem OpIn.uniq {w : World} {h₀ h : Heap} {L : Addr} {news : List (Addr × Obj)} {x : Addr} {p o : Op} (N : News h₀ L h news) (hp : OpIn w news (.ref x) p) (ho : OpIn w news (.ref x) o) : p = o := by
  have key : ∀ {y : Addr} {a b : Obj}, (y, a) ∈ news → (y, b) ∈ news → a = b := fun ha hb => by
    have h1 := (N _ ha).1
    rw [(N _ hb).1] at h1
    exact (Option.some.inj h1).symm
  cases hp with
  | lit a b =>
    cases ho with
    | lit c d =>
      have e := key a c
      simp only [instObj, Obj.mk.injEq, Option.some.injEq] at e
      obtain ⟨_, rfl, _⟩ := e
      have e := key b d
      simp_all [dictOf, ent]
    | var c d => have e := key a c; simp [instObj] at e
    | lab c d => have e := key a c; simp [instObj] at e
  | var a b =>
    cases ho with
    | var c d =>
      have e := key a c
      simp only [instObj, Obj.mk.injEq, Option.some.injEq] at e
      obtain ⟨_, rfl, _⟩ := e
      have e := key b d
      simp_all [dictOf, ent]
    | lit c d => have e := key a c; simp [instObj] at e
    | lab c d => have e := key a c; simp [instObj] at e
  | lab a b =>
    cases ho with
    | lab c d =>
      have e := key a c
      simp only [instObj, Obj.mk.injEq, Option.some.injEq] at e
      obtain ⟨_, rfl, _⟩ := e
      have e := key b d
      simp_all [dictOf, ent]
    | lit c d => have e := key a c; simp [instObj] at e
    | var c d => have e := key a c; simp [instObj] at e
section
variable {w : World} {dp un : Nat} {gd : Option (List Code)} {cn : Str} {cs : Scope} {a : Addr} {ccd : Value} {cl : List (Str × Addr)} {outer : List Env} {A₀ : Around} {base h₀ : Heap} {L : Addr} {m : Str → Option Value} {news news' : List (Addr × Obj)} {s : Shared}
    {mean : ExcName → Option Value} {mg mb : Str → Option Value} {E : Value → Shared → Prop}
theorem eqBool_op {x : Addr} {v : Value} {c : Str} {o : Op} {Q : Bool → Shared → Prop}
    (C : Cx w A₀ base h₀ outer L m news s.heap mean mg mb) (hk : cs.kind = .function) (hx : OpIn w news (.ref x) (.var c)) (hv : OpIn w news v o) (hdp : dp < 800) (hun : un < 900)
    (ret : ∀ h' tk', Fr h₀ L h' m → News h₀ L h' news → Q (o.isVar && (Op.var c).same o) { s with heap := h', toks := tk' }) :
    wpAny (model PySem.Challenge.rw_bq0029_01.row.prog w) (ktrTop dp un gd cn cs L a ccd cl outer) (eqBool (.ref x) v) Q E s := by
  have B := C.B
  have F := C.F
  have X := C.X
  have N := C.N
  have T := C.T
  have main : wpAny (model PySem.Challenge.rw_bq0029_01.row.prog w) (ktrTop dp un gd cn cs L a ccd cl outer) (richCompare .Eq (.ref x) v) (fun r s' => wpAny (model PySem.Challenge.rw_bq0029_01.row.prog w) (ktrTop dp un gd cn cs L a ccd cl outer) (truthOfDropped r) Q E s') E s := by
    have hx' := hx
    have hv' := hv
    cases hx' with
    | var hi hd1 =>
      cases hv' with
      | lit vi vd =>
        k_dflt (refine' cmp_K ?k1 ?k2 ?k3 ?k4 ?k5 ?k6 ?k7 ?k8 ?_; (case k1 => k_units); (case k2 => k_asm); (case k3 => k_asm); (case k4 => k_inst); (case k5 => k_typeOf); (case k6 => k_is); (case k7 => k_is); (case k8 => k_is))
        exact eq_spec C hk hx hv hdp hun fun h' tk' F' N' => wpAny_truthy_bool (ret h' tk' F' N')
      | var vi vd =>
        k_dflt (refine' cmp_K ?k1 ?k2 ?k3 ?k4 ?k5 ?k6 ?k7 ?k8 ?_; (case k1 => k_units); (case k2 => k_asm); (case k3 => k_asm); (case k4 => k_inst); (case k5 => k_typeOf); (case k6 => k_is); (case k7 => k_is); (case k8 => k_is))
        exact eq_spec C hk hx hv hdp hun fun h' tk' F' N' => wpAny_truthy_bool (ret h' tk' F' N')
      | lab vi vd =>
        k_dflt (refine' cmp_K ?k1 ?k2 ?k3 ?k4 ?k5 ?k6 ?k7 ?k8 ?_; (case k1 => k_units); (case k2 => k_asm); (case k3 => k_asm); (case k4 => k_inst); (case k5 => k_typeOf); (case k6 => k_is); (case k7 => k_is); (case k8 => k_is))
        exact eq_spec C hk hx hv hdp hun fun h' tk' F' N' => wpAny_truthy_bool (ret h' tk' F' N')
  have hid : v = .ref x → (o.isVar && (Op.var c).same o) = true := by
    rintro rfl
    have e := hx.uniq N hv
    subst e
    simp [Op.isVar, Op.same]
  obtain ⟨y, rfl⟩ : ∃ y, v = .ref y := by cases hv <;> exact ⟨_, rfl⟩
  unfold eqBool
  refine wpAny_holding ?_
  by_cases hy : (Value.ref x == Value.ref y) = true
  · rw [if_pos hy]
    refine wpAny_bind (m := rule _) (wpAny_rule ?_)
    have e : y = x := by simpa using (beq_iff_eq.mp hy).symm
    have := ret _ s.toks F N
    rw [hid (by rw [e])] at this
    exact wpAny_pure this
  · rw [if_neg hy]
    refine wpAny_bind ?_
    exact main
theorem contains_loopS {prog : Program} {A : Around} {l : Addr} {x : Value} {items : Array Value} {n : Nat} {es : List Bool} {S : Shared → Prop} (hz : es.length = items.size) (hl : ∀ s, S s → s.heap.get? l = some (listOf items n))
    (he : ∀ (i : Nat) (hi : i < items.size) (E : Value → Shared → Prop) (Q : Bool → Shared → Prop) s, S s → (∀ s', S s' → Q (es[i]'(by omega)) s') → wpAny (model prog w) A.in1 (eqBool items[i] x) Q E s) :
    ∀ k i, items.size - i = k → ∀ (R : Result → Shared → Prop) s, S s → (∀ s', S s' → R (.ok (.ret (.bool ((es.drop i).any id)))) s') →
      wpAny (model prog w) A.in1 (Builtin.«list.__contains__.loop» ⟨[.ref l, x, rawInt i], []⟩) (fun fin s' => match fin with | .done f => R (.ok f) s' | .again c' => c'.quiet = true ∧ codeAny (model prog w) A c' R s') (fun e s' => R (.error e) s') s := by
  intro k
  induction k with
  | zero =>
    intro i hk R s hs h
    have hls := hl s hs
    have hh := h s hs
    obtain ⟨hp, g, d, tk, os⟩ := s
    wp_walk using AutoSeq1.wpAny_loadPart' hls
    have hi : items[((i : Nat) : Int).toNat]? = none := by simp; omega
    have hd : es.drop i = [] := by simp; omega
    rw [hd] at hh
    rw [hi]
    wp_walk
    exact hh
  | succ k ih =>
    intro i hk R s hs h
    have hls := hl s hs
    obtain ⟨hp, g, d, tk, os⟩ := s
    wp_walk using AutoSeq1.wpAny_loadPart' hls
    have hlt : i < items.size := by omega
    have hi : items[((i : Nat) : Int).toNat]? = some items[i] := by simp [hlt]
    have hd : es.drop i = es[i]'(by omega) :: es.drop (i + 1) := List.drop_eq_getElem_cons (by omega)
    rw [hd] at h
    rw [hi]
    refine wpAny_bind (he i hlt _ _ _ hs fun s' hs' => ?_)
    have h' := h
    simp only [List.any_cons, id] at h'
    cases hb : es[i]'(by omega) with
    | true =>
      rw [hb] at h'
      have h2 := h' s' hs'
      wp_walk
      exact h2
    | false =>
      rw [hb] at h'
      have hc : ((i : Int) + 1) = ((i + 1 : Nat) : Int) := by push_cast; rfl
      wp_walk
      rw [hc]
      exact ⟨plainId_quiet MeetsSeq.plain_contains_loop _, codeAny_builtin MeetsSeq.entry_contains_loop (by
        rw [Around.under_plainId MeetsSeq.plain_contains_loop _]
        exact ih (i + 1) (by omega) R _ hs' (fun s'' h'' => by simpa using h' s'' h''))⟩
theorem in_ops {P : Addr} {ps : List Value} {pos : List Op} {n : Nat} {v : Value} {o : Op} {Q : Value → Shared → Prop}
    (C : Cx w A₀ base h₀ outer L m news s.heap mean mg mb) (hk : cs.kind = .function) (hP : (P, listOf ps.toArray n) ∈ news) (hps : OpsIn w news ps pos) (hvar : ∀ p ∈ pos, ∃ c, p = .var c) (hv : OpIn w news v o) (hdp : dp < 700) (hun : un < 800)
    (ret : ∀ h' tk', Fr h₀ L h' m → News h₀ L h' news → Q (.bool (pos.any fun p => o.isVar && p.same o)) { s with heap := h', toks := tk' }) :
    wpAny (model PySem.Challenge.rw_bq0029_01.row.prog w) (ktrTop dp un gd cn cs L a ccd cl outer) (compareOp .In v (.ref P)) Q E s := by
  have hT : s.TypeIs (.ref P) "list" := ⟨_, (C.N _ hP).1, rfl⟩
  refine wpAny_bind (m := contains (.ref P) v) (wpAny_contains_slot hT PySem.F.slot_list_contains ?_)
  let St : Shared → Prop := fun s' => ∃ h' tk', s' = { s with heap := h', toks := tk' } ∧ Fr h₀ L h' m ∧ News h₀ L h' news
  have hlen : (pos.map fun p => o.isVar && p.same o).length = ps.toArray.size := by simp [hps.length]
  refine call_meetsIn (S := fun A' R s' => A' = ktrTop dp un gd cn cs L a ccd cl outer ∧ s' = s ∧ ∀ s'', St s'' → R (.ok (.ret (.bool ((pos.map fun p => o.isVar && p.same o).any id)))) s'') PySem.F.slot_list_contains hT PySem.F.entry_list_contains (PySem.F.args_list_contains_2 _ _) ?_ ⟨rfl, rfl, ?_⟩
  · rintro A' R s' ⟨rfl, rfl, h⟩
    wp_walk
    refine ⟨plainId_quiet MeetsSeq.plain_contains_loop _, codeAny_builtin MeetsSeq.entry_contains_loop ?_⟩
    rw [Around.under_plainId MeetsSeq.plain_contains_loop _]
    refine contains_loopS (n := n) (S := St) hlen (fun s1 h1 => ?_) (fun i hi E' Q' s1 h1 k => ?_) _ 0 rfl R s' ⟨s'.heap, s'.toks, rfl, C.F, C.N⟩ (by simpa using h)
    · obtain ⟨h', tk', rfl, F', N'⟩ := h1
      exact (N' _ hP).1
    · obtain ⟨h', tk', rfl, F', N'⟩ := h1
      have hi' : i < ps.length := by simpa using hi
      obtain ⟨p, hp1, hp2⟩ := hps.get i hi'
      obtain ⟨c, rfl⟩ := hvar p (List.mem_of_getElem? hp1)
      have e1 : ps.toArray[i] = ps.getD i .none := by simp [List.getD, hi']
      rw [e1]
      have e2 : ∀ hj, (pos.map fun p => o.isVar && p.same o)[i]'hj = (o.isVar && (Op.var c).same o) := fun hj => by
        obtain ⟨h1, h2⟩ := List.getElem?_eq_some_iff.mp hp1
        simp [h2]
      rw [e2] at k
      generalize ps.getD i .none = y at hp2
      obtain ⟨y, rfl⟩ : ∃ z, y = .ref z := by cases hp2; exact ⟨_, rfl⟩
      exact eqBool_op (dp := dp) (un := un + 1) ⟨C.B, F', C.X, N', C.T⟩ hk hp2 hv (by omega) (by omega) fun h2 tk2 F2 N2 => k _ ⟨h2, tk2, rfl, F2, N2⟩
  · rintro s'' ⟨h', tk', rfl, F', N'⟩
    have := ret h' tk' F' N'
    rw [List.any_map]
    exact wpAny_truthy_bool (wpAny_pure this)
end
end
local macro_rules | `(tactic| walk_at "zz") => `(tactic| skip)
theorem filled_RP : ∀ (w : World) (h : Heap), (hd.heap_39 w.params).In h → PySem.Challenge.rw_bq0029_01.wellSaid = true → True := by
  k_fill
  w_top off
  intros; trivial
section
section
variable {w : World} {dp un : Nat} {gd : Option (List Code)} {cn : Str} {cs : Scope} {a : Addr} {ccd : Value} {cl : List (Str × Addr)} {outer : List Env} {A₀ : Around} {base h₀ : Heap} {L : Addr} {m : Str → Option Value} {news news' : List (Addr × Obj)} {s : Shared}
    {mean : ExcName → Option Value} {mg mb : Str → Option Value} {Q E : Value → Shared → Prop}
set_option maxHeartbeats 8000000 in
theorem repr_var {x : Addr} {c : Str}
    (C : Cx w A₀ base h₀ outer L m news s.heap mean mg mb) (hk : cs.kind = .function) (hx : OpIn w news (.ref x) (.var c)) (hdp : dp < 800) (hun : un < 900)
    (ret : ∀ t h' tk', Fr h₀ L h' m → News h₀ L h' news → Q (.str c t) { s with heap := h', toks := tk' }) :
    wpAny (model PySem.Challenge.rw_bq0029_01.row.prog w) (ktrTop dp un gd cn cs L a ccd cl outer) (call (.ref 64) [.ref x]) Q E s := by
  obtain ⟨B, F, X, N, T⟩ := C
  cases hx with
  | var hi hd1 =>
    refine wpAny_call ?_
    k_dflt ktr_enter
    k_steps
    exact ret _ _ _ (by assumption) (by assumption)
set_option maxHeartbeats 8000000 in
theorem repr_lab {x : Addr} {c : Str}
    (C : Cx w A₀ base h₀ outer L m news s.heap mean mg mb) (hk : cs.kind = .function) (hx : OpIn w news (.ref x) (.lab c)) (hdp : dp < 800) (hun : un < 900)
    (ret : ∀ t h' tk', Fr h₀ L h' m → News h₀ L h' news → Q (.str c t) { s with heap := h', toks := tk' }) :
    wpAny (model PySem.Challenge.rw_bq0029_01.row.prog w) (ktrTop dp un gd cn cs L a ccd cl outer) (call (.ref 152) [.ref x]) Q E s := by
  obtain ⟨B, F, X, N, T⟩ := C
  cases hx with
  | lab hi hd1 =>
    refine wpAny_call ?_
    k_dflt ktr_enter
    k_steps
    exact ret _ _ _ (by assumption) (by assumption)
set_option maxHeartbeats 8000000 in
theorem repr_lit {x : Addr} {i : Int}
    (C : Cx w A₀ base h₀ outer L m news s.heap mean mg mb) (hk : cs.kind = .function) (hx : OpIn w news (.ref x) (.lit i)) (h0 : 0 ≤ i) (h1 : i < 4) (hdp : dp < 800) (hun : un < 900)
    (ret : ∀ y t h' tk', y.length ≤ 2 → Fr h₀ L h' m → News h₀ L h' news → Q (.str y t) { s with heap := h', toks := tk' }) :
    wpAny (model PySem.Challenge.rw_bq0029_01.row.prog w) (ktrTop dp un gd cn cs L a ccd cl outer) (call (.ref 94) [.ref x]) Q E s := by
  obtain ⟨B, F, X, N, T⟩ := C
  cases hx with
  | lit hi hd1 =>
    have hc : i = 0 ∨ i = 1 ∨ i = 2 ∨ i = 3 := by omega
    clear h0 h1
    rcases hc with rfl | rfl | rfl | rfl
    all_goals refine wpAny_call ?_
    all_goals k_dflt ktr_enter
    all_goals k_steps
    all_goals exact ret _ _ _ _ (by decide +kernel) (by assumption) (by assumption)
end
end
local macro_rules | `(tactic| walk_at "zz") => `(tactic| skip)
theorem filled_LR : ∀ (w : World) (h : Heap), (hd.heap_39 w.params).In h → PySem.Challenge.rw_bq0029_01.wellSaid = true → True := by
  k_fill
  w_top off
  intros; trivial
section
section
variable {prog : Program} {w : World} {A : Around} {E : Value → Shared → Prop} {s : Shared} {K : Frag} {x C f : Addr} {ox : Obj} {od : Option Obj}
theorem reprUnder_own {b : Nat} {Q : Str → Shared → Prop} (hb : b ≤ sizeLine) (hu : A.units < cLine) (X : K.In s.heap) (I : InstAt s.heap x ox C od) (hs : findIn K (.ref C) "__repr__" = some (some (.ref f))) (hf : isFn K (.ref f) = true)
    (h : wpAny (model prog w) A (call (.ref f) [.ref x]) (fun v s' => ∃ y t, v = .str y t ∧ Q y s') E s) : wpAny (model prog w) A (pyReprUnder b (.ref x)) Q E s := by
  refine wpAny_pyReprUnder_ref hb ?_
  unfold pyReprObjUnder pyReprObjBy
  refine wpAny_bind (m := cRoomFor _ _) (wpAny_cRoomFor hu ?_)
  refine wpAny_bind (wpAny_bind (I.type.here ((looks_findIn X hs).here ?_)))
  show wpAny _ _ (if (some (Value.ref f)).isNone = true then _ else _) _ _ _
  rw [if_neg (by simp)]
  have key : ∀ (Q' : Option Value → Shared → Prop), wpAny (model prog w) A (call (.ref f) [.ref x]) (fun v s' => Q' (some v) s') E s → wpAny (model prog w) A (callSpecialIfBoundBy? (fun g first => match reprUnder? g, first with
    | some twin, [self] => call twin [self, rawInt b]
    | _, _ => call g (first ++ [])) (.ref x) "__repr__") Q' E s := fun Q' hc => by
    simp only [callSpecialIfBoundBy?, bindSpecialIfBound?]
    refine wpAny_holding (wpAny_bind (wpAny_bind (wpAny_bind (I.type.here ((looks_findIn X hs).here ?_)))))
    refine wpAny_bind (wpAny_askSetting (wpAny_ite ?_))
    have fin : wpAny (model prog w) A (call (.ref f) ([.ref x] ++ []) >>= fun v => pure (some v)) Q' E s := wpAny_bind (wpAny_mono hc (fun v s' h' => wpAny_pure h') fun _ _ h' => h')
    split
    · exact wpAny_bind ((bind_fn X _ (beq_iff_eq.mp hf)).here (wpAny_pure (by exact fin)))
    · exact wpAny_tryCatch (wpAny_bind ((bind_fn X _ (beq_iff_eq.mp hf)).here (wpAny_pure (by exact fin))))
  refine wpAny_bind (m := callSpecialIfBoundBy? _ _ _) (key _ (wpAny_mono h (fun v s' hv => ?_) fun _ _ z => z))
  obtain ⟨y, t, rfl, hq⟩ := hv
  exact wpAny_bind (wpAny_isInstance (typeIs_str _ _ _) isSubtype_str_str (wpAny_pure ⟨_, _, rfl, hq⟩))
end
theorem small_text {c : Str} (h : (Op.var c).small ∨ (Op.lab c).small) : c.length ≤ 2 := by
  rcases h with (rfl | rfl | rfl | rfl) | (rfl | rfl) <;> decide +kernel
section
variable {w : World} {dp un : Nat} {gd : Option (List Code)} {cn : Str} {cs : Scope} {a : Addr} {ccd : Value} {cl : List (Str × Addr)} {outer : List Env} {A₀ : Around} {base h₀ : Heap} {L : Addr} {m : Str → Option Value} {news news' : List (Addr × Obj)} {s : Shared}
    {mean : ExcName → Option Value} {mg mb : Str → Option Value} {E : Value → Shared → Prop}
theorem repr_op {v : Value} {o : Op} {b : Nat} {Q : Str → Shared → Prop} (C : Cx w A₀ base h₀ outer L m news s.heap mean mg mb) (hk : cs.kind = .function) (hv : OpIn w news v o) (ho : o.small) (hdp : dp < 800) (hun : un < 900) (hb : b ≤ sizeLine)
    (ret : ∀ y h' tk', y.length ≤ 2 → Fr h₀ L h' m → News h₀ L h' news → Q y { s with heap := h', toks := tk' }) :
    wpAny (model PySem.Challenge.rw_bq0029_01.row.prog w) (ktrTop dp un gd cn cs L a ccd cl outer) (pyReprUnder b v) Q E s := by
  have B := C.B
  have F := C.F
  have X := C.X
  have N := C.N
  have T := C.T
  have hv' := hv
  cases hv' with
  | lit vi vd =>
    k_dflt (refine' reprUnder_own hb ?k1 ?k2 ?k4 ?k6 ?k7 ?_; (case k1 => k_units); (case k2 => k_in); (case k4 => k_inst); (case k6 => k_is); (case k7 => k_is))
    exact repr_lit C hk hv ho.1 ho.2 hdp hun fun y t h' tk' hy F' N' => ⟨y, t, rfl, ret y h' tk' hy F' N'⟩
  | var vi vd =>
    k_dflt (refine' reprUnder_own hb ?k1 ?k2 ?k4 ?k6 ?k7 ?_; (case k1 => k_units); (case k2 => k_in); (case k4 => k_inst); (case k6 => k_is); (case k7 => k_is))
    exact repr_var C hk hv hdp hun fun t h' tk' F' N' => ⟨_, t, rfl, ret _ h' tk' (small_text (.inl ho)) F' N'⟩
  | lab vi vd =>
    k_dflt (refine' reprUnder_own hb ?k1 ?k2 ?k4 ?k6 ?k7 ?_; (case k1 => k_units); (case k2 => k_in); (case k4 => k_inst); (case k6 => k_is); (case k7 => k_is))
    exact repr_lab C hk hv hdp hun fun t h' tk' F' N' => ⟨_, t, rfl, ret _ h' tk' (small_text (.inr ho)) F' N'⟩
theorem under_loop (args : Args) : ∃ dp' un' gd', (ktrTop dp un gd cn cs L a ccd cl outer).under (.builtin "list.__repr__.loop" args) = ktrTop dp' un' gd' cn cs L a ccd cl outer ∧ dp' ≤ dp + 2 ∧ un' ≤ un + 2 := by
  refine ⟨dp + (Code.builtin "list.__repr__.loop" args).weight, un + (Code.builtin "list.__repr__.loop" args).cUnits, pushGuards (Code.builtin "list.__repr__.loop" args).guards gd, ?_, ?_, ?_⟩
  · have e : (Code.builtin "list.__repr__.loop" args).envs = [] := by simp [Code.envs, Code.isFrame]
    unfold Around.under
    rw [e]
    rfl
  · have e : (Code.builtin "list.__repr__.loop" args).weight ≤ 2 := by
      have e1 : (Code.builtin "list.__repr__.loop" args).isCreation = false := by first | rfl | simp [Code.isCreation]
      have e2 : (Code.builtin "list.__repr__.loop" args).isCaller = false := by first | rfl | simp [Code.isCaller]
      have e3 : (Code.builtin "list.__repr__.loop" args).frames = 0 := by first | rfl | simp [Code.frames]
      simp only [Code.weight, e1, e2, e3, Bool.false_eq_true, if_false]
      split <;> omega
    omega
  · have e : (Code.builtin "list.__repr__.loop" args).cUnits = 1 := by first | rfl | simp [Code.cUnits, Code.frames, Code.isFrame]
    omega
end
theorem textFrom_le : ∀ (ts : List Str) (k : Nat) (acc : Str), (∀ t ∈ ts, t.length ≤ 2) → (textFrom k acc ts).length ≤ acc.length + 4 * ts.length
  | [], _, acc, _ => Nat.le_refl _
  | t :: r, k, acc, h => by
    have ih := textFrom_le r (k + 1) (acc ++ (if k > 0 then ", " else "" : String) ++ t) fun u hu => h u (List.mem_cons_of_mem _ hu)
    have e : (acc ++ (if k > 0 then ", " else "" : String) ++ t).length = acc.length + (if k > 0 then 2 else 0) + t.length := by
      rw [strLen_append, strLen_append]
      split <;> rfl
    have h1 := h t List.mem_cons_self
    have h2 : (if k > 0 then 2 else 0 : Nat) ≤ 2 := by split <;> omega
    show (textFrom (k + 1) _ r).length ≤ _
    rw [List.length_cons]
    omega
end
local macro_rules | `(tactic| walk_at "zz") => `(tactic| skip)
theorem filled_LS : ∀ (w : World) (h : Heap), (hd.heap_39 w.params).In h → PySem.Challenge.rw_bq0029_01.wellSaid = true → True := by
  k_fill
  w_top off
  intros; trivial
section
section
variable {w : World} {dp un : Nat} {gd : Option (List Code)} {cn : Str} {cs : Scope} {a : Addr} {ccd : Value} {cl : List (Str × Addr)} {outer : List Env} {A₀ : Around} {base h₀ : Heap} {L : Addr} {m : Str → Option Value} {news news' : List (Addr × Obj)} {s : Shared}
    {mean : ExcName → Option Value} {mg mb : Str → Option Value} {E : Value → Shared → Prop}
theorem repr_loopS {S P : Addr} {vs : List Value} {os : List Op} {n : Nat} {R : Result → Shared → Prop} (B : Below A₀ base outer h₀) (X : (hd.heap_39 w.params).In h₀) (T : Top hd.view_39 LZ mean mg mb h₀) (hk : cs.kind = .function)
    (hS : (S, listOf vs.toArray n) ∈ news) (hos : OpsIn w news vs os) (hsm : ∀ o ∈ os, o.small) (hoff : ∀ p ∈ news, p.1 ≠ P) (hsz : vs.length ≤ 100) (hdp : dp < 700) (hun : un < 800)
    (ret : ∀ y t h' tk', y.length ≤ 1000 → Fr h₀ L h' m → News h₀ L h' news → R (.ok (.ret (.str y t))) { s with heap := h', toks := tk' }) :
    ∀ (k i : Nat), vs.length - i = k → i ≤ vs.length → ∀ (h : Heap) (tk : Nat) (acc : Array Value) (c sg : Nat) (done : List (Str × Tok)), acc.toList = strValues done → done.length = i → (∀ p ∈ done, p.1.length ≤ 2) → sg ≤ 4 * i → Fr h₀ L h m → News h₀ L h ((P, listOf acc c) :: news) →
      codeAny (model PySem.Challenge.rw_bq0029_01.row.prog w) (ktrTop dp un gd cn cs L a ccd cl outer) (.builtin "list.__repr__.loop" ⟨[.ref S, rawInt i, .ref P, rawInt (sg : Nat)], []⟩) R { s with heap := h, toks := tk } := by
  have hline : (1100 : Nat) ≤ sizeLine := by rw [sizeLine_eq]; omega
  intro k
  induction k with
  | zero =>
    intro i hi1 hi2 h tk acc c sg done hacc hdl hd2 hsg Fh Nh
    have hin : i = vs.length := by omega
    obtain ⟨dp', un', gd', e, hdd, huu⟩ := under_loop (dp := dp) (un := un) (gd := gd) (cn := cn) (cs := cs) (L := L) (a := a) (ccd := ccd) (cl := cl) (outer := outer) ⟨[.ref S, rawInt i, .ref P, rawInt (sg : Nat)], []⟩
    refine codeAny_builtin PySem.F.entry_list_repr_loop ?_
    rw [e]
    show wpAny _ _ (Builtin.«list.__repr__.loop» ⟨[.ref S, .int i 0, .ref P, .int (sg : Int) 0], []⟩) _ _ _
    rw [repr_loop_tree]
    refine wpAny_bind (wpAny_listItems (Nh _ (List.mem_cons_of_mem _ hS)).1 rfl ?_)
    have hnone : vs.toArray[(i : Int).toNat]? = none := by simp [hin]
    simp only [hnone]
    unfold reprEnd
    refine wpAny_bind (wpAny_listItems (Nh _ List.mem_cons_self).1 rfl ?_)
    rw [hacc, repr_fold]
    refine wpAny_bind (wpAny_pure ?_)
    have hle := textFrom_le (done.map (·.1)) 0 "[" (fun t ht => by obtain ⟨p, hp, rfl⟩ := List.mem_map.mp ht; exact hd2 p hp)
    have hlen : (textFrom 0 "[" (done.map (·.1)) ++ "]").length ≤ 1000 := by
      have e1 : (textFrom 0 "[" (done.map (·.1)) ++ "]").length = (textFrom 0 "[" (done.map (·.1))).length + 1 := by rw [strLen_append]; rfl
      have e2 : (("[" : Str)).length = 1 := rfl
      rw [e2, List.length_map, hdl, hin] at hle
      omega
    unfold retStr
    refine wpAny_bind (wpAny_mkStr (wpAny_pure ?_) (by omega))
    exact ret _ _ _ _ hlen Fh fun p hp => Nh p (List.mem_cons_of_mem _ hp)
  | succ k ih =>
    intro i hi1 hi2 h tk acc c sg done hacc hdl hd2 hsg Fh Nh
    have hlt : i < vs.length := by omega
    obtain ⟨dp', un', gd', e, hdd, huu⟩ := under_loop (dp := dp) (un := un) (gd := gd) (cn := cn) (cs := cs) (L := L) (a := a) (ccd := ccd) (cl := cl) (outer := outer) ⟨[.ref S, rawInt i, .ref P, rawInt (sg : Nat)], []⟩
    refine codeAny_builtin PySem.F.entry_list_repr_loop ?_
    rw [e]
    show wpAny _ _ (Builtin.«list.__repr__.loop» ⟨[.ref S, .int i 0, .ref P, .int (sg : Int) 0], []⟩) _ _ _
    rw [repr_loop_tree]
    refine wpAny_bind (wpAny_listItems (Nh _ (List.mem_cons_of_mem _ hS)).1 rfl ?_)
    have hsome : vs.toArray[(i : Int).toNat]? = some (vs.getD i .none) := by simp [List.getD, hlt]
    simp only [hsome]
    rw [Int.toNat_natCast]
    obtain ⟨o1, ho1, hv1⟩ := hos.get i hlt
    have hv2 : OpIn w ((P, listOf acc c) :: news) (vs.getD i .none) o1 := hv1.mono fun p hp => List.mem_cons_of_mem _ hp
    have hasz : acc.size ≤ sizeLine := by
      have e1 : acc.toList.length = acc.size := by simp
      have e2 : (strValues done).length = done.length := by simp [strValues]
      rw [hacc] at e1
      omega
    refine wpAny_bind (wpAny_holding (repr_op (s := { s with heap := h, toks := tk }) ⟨B, Fh, X, Nh, T⟩ hk hv2 (hsm o1 (List.mem_of_getElem? ho1)) (by omega) (by omega) (by omega) fun y h' tk' hy F' N' => ?_))
    refine wpAny_bind (wpAny_mkStr ?_ (by omega))
    refine wpAny_bind ?_
    show wpAny _ _ (updateSeq P _) _ _ _
    have z := N' _ List.mem_cons_self
    refine wpAny_updateSeq z.1 rfl (wpAny_pure ⟨PySem.F.quiet_list_repr_loop _, ?_⟩) hasz
    have e1 : ((i : Int) + 1) = ((i + 1 : Nat) : Int) := by omega
    rw [e1]
    refine ih (i + 1) (by omega) (by omega) _ _ (acc.push (.str y tk')) _ (sg + (y.length + 2)) (done ++ [(y, tk')]) (by simp [hacc, strValues]) (by simp [hdl]) ?_ (by omega) (F'.change (Heap.SameBut.update ..) z.2.1 z.2.2) (news_set (pre := []) N' (fun _ h => nomatch h) hoff (Heap.SameBut.update ..) (Heap.get?_update_self _ z.1 rfl))
    intro p hp
    rcases List.mem_append.mp hp with hp | hp
    · exact hd2 p hp
    · rw [List.mem_singleton.mp hp]; exact hy
theorem list_repr_ops {S : Addr} {vs : List Value} {os : List Op} {n : Nat} {Q : Value → Shared → Prop} (C : Cx w A₀ base h₀ outer L m news s.heap mean mg mb) (hk : cs.kind = .function) (hgd : gd = some [])
    (hS : (S, listOf vs.toArray n) ∈ news) (hos : OpsIn w news vs os) (hsm : ∀ o ∈ os, o.small) (h0 : 0 < vs.length) (hsz : vs.length ≤ 100) (hdp : dp < 700) (hun : un < 800)
    (ret : ∀ y t h' tk', y.length ≤ 1000 → Fr h₀ L h' m → News h₀ L h' news → Q (.str y t) { s with heap := h', toks := tk' }) :
    wpAny (model PySem.Challenge.rw_bq0029_01.row.prog w) (ktrTop dp un gd cn cs L a ccd cl outer) (call (.builtin "list.__repr__") [.ref S]) Q E s := by
  subst hgd
  have hTy : s.TypeIs (.ref S) "list" := ⟨_, (C.N _ hS).1, rfl⟩
  obtain ⟨x, l, rfl⟩ : ∃ x l, vs = x :: l := by cases vs with | nil => exact absurd h0 (Nat.lt_irrefl 0) | cons x l => exact ⟨x, l, rfl⟩
  refine wpAny_call (codeAny_call_builtin PySem.F.slot_list_repr.plain PySem.F.entry_list_repr (PySem.F.slot_list_repr.check _ _ _ _ _ _ _ _ hTy (PySem.F.args_list_repr_1 _) ?_))
  refine wpAny_list_repr_head (g := []) rfl (fun _ _ _ h => nomatch h) (C.N _ hS).1 rfl ?_
  refine wpAny_bind (m := newList []) (newList_K C.F C.N (fun P h' F' N' hlt => ?_))
  refine wpAny_pure ⟨PySem.F.quiet_list_repr_loop _, ?_⟩
  exact repr_loopS (s := s) C.B C.X C.T hk hS hos hsm (fun p hp => Nat.ne_of_lt (hlt p hp)) hsz hdp hun (fun y t h2 tk2 hy F2 N2 => ret y t h2 tk2 hy F2 N2) _ 0 rfl (Nat.zero_le _) h' s.toks #[] 0 0 [] rfl rfl (fun _ h => nomatch h) (Nat.le_refl _) F' N'
end
end
local macro_rules | `(tactic| walk_at "zz") => `(tactic| skip)
theorem filled_GP : ∀ (w : World) (h : Heap), (hd.heap_39 w.params).In h → PySem.Challenge.rw_bq0029_01.wellSaid = true → True := by
  k_fill
  w_top off
  intros; trivial
section
def Over3 (x y r : Str) (m₀ m : Str → Option Value) : Prop := ∀ z, z ≠ x → z ≠ y → z ≠ r → m z = m₀ z
theorem over3_fr {h₀ h : Heap} {L : Addr} {x y r : Str} {m₀ m₁ : Str → Option Value} {u v c : Option Value} (o : Over3 x y r m₀ m₁) (e1 : m₁ r = c) (F : Fr h₀ L h (fun z => if z = y then v else if z = x then u else m₁ z)) :
    Fr h₀ L h (fun z => if z = y then v else if z = x then u else if z = r then c else m₀ z) := by
  have e : (fun z => if z = y then v else if z = x then u else m₁ z) = fun z => if z = y then v else if z = x then u else if z = r then c else m₀ z := by
    funext z
    by_cases h1 : z = y
    · simp only [if_pos h1]
    · by_cases h2 : z = x
      · simp only [if_neg h1, if_pos h2]
      · by_cases h3 : z = r
        · simp only [if_neg h1, if_neg h2, if_pos h3]
          rw [h3]; exact e1
        · simp only [if_neg h1, if_neg h2, if_neg h3]; exact o z h2 h1 h3
  rwa [e] at F
theorem over3_done {h₀ h : Heap} {L : Addr} {x y r : Str} {m₀ m₁ : Str → Option Value} {c : Option Value} (o : Over3 x y r m₀ m₁) (e1 : m₁ r = c) (F : Fr h₀ L h m₁) :
    Fr h₀ L h (fun z => if z = y then m₁ y else if z = x then m₁ x else if z = r then c else m₀ z) := by
  have e : (fun z => if z = y then m₁ y else if z = x then m₁ x else if z = r then c else m₀ z) = m₁ := by
    funext z
    by_cases h1 : z = y
    · rw [if_pos h1, h1]
    · by_cases h2 : z = x
      · rw [if_neg h1, if_pos h2, h2]
      · by_cases h3 : z = r
        · rw [if_neg h1, if_neg h2, if_pos h3, h3]; exact e1.symm
        · rw [if_neg h1, if_neg h2, if_neg h3]; exact (o z h2 h1 h3).symm
  rwa [e]
section
variable {prog : Program} {w : World} {A : Around} {E : Value → Shared → Prop} {s : Shared} {env : Env} {h₀ : Heap} {body : List Stmt} {Q : Flow → Shared → Prop}
/-- the same loop where one more name is kept -/
theorem iter_enumRevR {xi xc xr : Str} {pk pv pt : Pos} {x1 : Nat} {I l : Addr} {vs : List Value} {n : Nat} {m₀ : Str → Option Value} {news : List (Addr × Obj)} {v0 : Value}
    (J : Nat → Value → Prop)
    (hxi : env.kindOf xi = some .local) (hxc : env.kindOf xc = some .local) (hp : (env.scope.kind == .class || (env.scope.kind == .module && env.locals != env.globals)) = false)
    (hh : A.handled = none) (F : Fr h₀ env.locals s.heap m₀) (N : News h₀ env.locals s.heap ((I, revObj l ((vs.length : Int) - 1)) :: news)) (hl : (l, listOf vs.toArray n) ∈ news) (hoff : ∀ p ∈ news, p.1 < I) (h0 : m₀ xr = some v0) (hj : J 0 v0)
    (turn : ∀ i x t v h tk own, i < vs.length → x = vs.getD (vs.length - 1 - i) .none → J i v → OwnOff own (news.map (·.1)) →
      Fr h₀ env.locals h (fun y => if y = xc then some x else if y = xi then some (.int i t) else if y = xr then some v else m₀ y) → News h₀ env.locals h (news ++ own) →
      wpAny (model prog w) A (execs body env) (InvPostG h₀ env.locals (fun m' nx => Over3 xi xc xr m₀ m' ∧ nx = news ∧ ∃ v', m' xr = some v' ∧ J (i + 1) v') own { s with heap := h, toks := tk } Q) E { s with heap := h, toks := tk })
    (done : ∀ u u' v h tk, J vs.length v → Fr h₀ env.locals h (fun y => if y = xc then u else if y = xi then u' else if y = xr then some v else m₀ y) → News h₀ env.locals h news → Q .next { s with heap := h, toks := tk }) :
    wpAny (model prog w) A (call (.type "enumerate") [.ref I]) (fun xv s₁ => wpAny (model prog w) A (pyIter xv) (fun it s₂ => TurnsAt prog w A h₀ env (.Tuple [.Name xi pk, .Name xc pv] x1 pt) body Q E it s₂) E s₁) E s :=
  iter_enumRev (fun i m₁ nx => Over3 xi xc xr m₀ m₁ ∧ nx = news ∧ ∃ v', m₁ xr = some v' ∧ J i v') hxi hxc hp hh F N hl hoff ⟨fun _ _ _ _ => rfl, rfl, v0, h0, hj⟩ (fun i _ nx h => by rw [h.2.1]; exact hl)
    (fun i x t m₁ nx h tk own a b c d e f => by
      obtain ⟨c1, rfl, v, c2, c3⟩ := c
      exact turn i x t v h tk own a b c3 d (over3_fr c1 c2 e) f)
    (fun m₁ nx h tk a b c => by
      obtain ⟨a1, rfl, v, a2, a3⟩ := a
      exact done _ _ v h tk a3 (over3_done a1 a2 b) c)
end
/-- it stands for one of the names -/
def hit (ns : List Str) : Op → Bool
  | .var x => ns.contains x
  | _ => false
theorem hit_eq {ns : List Str} {o : Op} : ((ns.map Op.var).any fun p => o.isVar && p.same o) = hit ns o := by
  rw [List.any_map]
  cases o with
  | lit i => simp [Op.isVar, hit]
  | lab i => simp [Op.isVar, hit]
  | var x =>
    show (ns.any fun p => true && (p == x)) = ns.contains x
    simp only [Bool.true_and]
    rw [List.contains_eq_any_beq]
    congr 1
    funext p
    exact Bool.eq_iff_iff.mpr ⟨fun h => by rw [beq_iff_eq] at h ⊢; exact h.symm, fun h => by rw [beq_iff_eq] at h ⊢; exact h.symm⟩
section
variable {w : World} {dp un : Nat} {gd : Option (List Code)} {cn : Str} {cs : Scope} {a : Addr} {ccd : Value} {cl : List (Str × Addr)} {outer : List Env} {A₀ : Around} {base h₀ : Heap} {L : Addr} {m : Str → Option Value} {news news' : List (Addr × Obj)} {s : Shared}
    {mean : ExcName → Option Value} {mg mb : Str → Option Value} {E : Value → Shared → Prop}
theorem in_names {P : Addr} {ps : List Value} {ns : List Str} {n : Nat} {v : Value} {o : Op} {Q : Value → Shared → Prop}
    (C : Cx w A₀ base h₀ outer L m news s.heap mean mg mb) (hk : cs.kind = .function) (hP : (P, listOf ps.toArray n) ∈ news) (hps : OpsIn w news ps (ns.map Op.var)) (hv : OpIn w news v o) (hdp : dp < 700) (hun : un < 800)
    (ret : ∀ h' tk', Fr h₀ L h' m → News h₀ L h' news → Q (.bool (hit ns o)) { s with heap := h', toks := tk' }) :
    wpAny (model PySem.Challenge.rw_bq0029_01.row.prog w) (ktrTop dp un gd cn cs L a ccd cl outer) (compareOp .In v (.ref P)) Q E s :=
  in_ops C hk hP hps (fun p hp => by obtain ⟨x, _, rfl⟩ := List.mem_map.mp hp; exact ⟨x, rfl⟩) hv hdp hun fun h' tk' F' N' => by rw [hit_eq]; exact ret h' tk' F' N'
theorem list_field {S : Addr} {vs : List Value} {os : List Op} {n : Nat} {Q : Value → Shared → Prop} (C : Cx w A₀ base h₀ outer L m news s.heap mean mg mb) (hk : cs.kind = .function) (hgd : gd = some [])
    (hS : (S, listOf vs.toArray n) ∈ news) (hos : OpsIn w news vs os) (hsm : ∀ o ∈ os, o.small) (h0 : 0 < vs.length) (hsz : vs.length ≤ 100) (hdp : dp < 700) (hun : un < 700)
    (ret : ∀ y t h' tk', y.length ≤ 1000 → Fr h₀ L h' m → News h₀ L h' news → Q (.str y t) { s with heap := h', toks := tk' }) :
    wpAny (model PySem.Challenge.rw_bq0029_01.row.prog w) (ktrTop dp un gd cn cs L a ccd cl outer) (formatField (.ref S) Str.empty) Q E s := by
  have hT : s.TypeIs (.ref S) "list" := ⟨_, (C.N _ hS).1, rfl⟩
  have hc : (1000 : Nat) ≤ cLine := Nat.le_of_ble_eq_true rfl
  refine wpAny_formatField_slot (fun _ _ => nofun) (by show un + 2 < cLine; omega) hT PySem.F.slot_list_format PySem.F.slot_list_str PySem.F.slot_list_repr.toG ?_
  exact list_repr_ops (s := { s with toks := s.toks + 1 }) (dp := dp) (un := un + 1 + 1) ⟨C.B, C.F, C.X, C.N, C.T⟩ hk hgd hS hos hsm h0 hsz hdp (by omega) fun y t h' tk' hy F' N' => ⟨y, t, rfl, ret y t h' tk' hy F' N'⟩
end
end
local macro_rules | `(tactic| walk_at "zz") => `(tactic| skip)
theorem filled_PC : ∀ (w : World) (h : Heap), (hd.heap_39 w.params).In h → PySem.Challenge.rw_bq0029_01.wellSaid = true → True := by
  k_fill
  w_top off
  intros; trivial
section
section
variable {prog : Program} {w : World} {A : Around} {h₀ : Heap} {L : Addr} {m : Str → Option Value} {env : Env} {elt : Expr} {x : Str} {scope : Scope} {cl : List (Str × Addr)} {s : Shared} {S : List (Addr × Obj) → Prop} {P : Nat → Value → Prop} {Fin : List Value → List (Addr × Obj) → Prop} {news : List (Addr × Obj)}
/-- a comprehension by an invariant, where the ledger may grow -/
theorem comp_grow {n : Nat} (Z : Nat → List Value → List (Addr × Obj) → Prop) (h0 : Z 0 [] news)
    (turn : ∀ i v ys nw I oI C oC D m₂ h tk (E' : Value → Shared → Prop), i < n → P i v → Z i ys nw → LCg.NsObj oC m₂ → m₂ x = some v → Fr h₀ L h m → News h₀ L h ((I, oI) :: (C, oC) :: (D, LCg.lst ys) :: nw) → LCg.Off3 I C D nw → ((@Ne Nat I C) ∧ (@Ne Nat I D) ∧ (@Ne Nat C D)) →
      wpAny (model prog w) A (eval elt (compEnvC scope cl C env)) (LCg.CompEnd h₀ L m { s with heap := h, toks := tk } I oI C oC D (LCg.lst ys) S (fun y nw' => Z (i + 1) (ys ++ [y]) nw')) E' { s with heap := h, toks := tk })
    (fin : ∀ ys nw, Z n ys nw → Fin ys nw) : LCg.CompRest prog w A h₀ L m env elt x scope cl s S P Fin n 0 [] news := by
  have key : ∀ (j i : Nat) (ys : List Value) (nw : List (Addr × Obj)), i + j = n → Z i ys nw → LCg.CompRest prog w A h₀ L m env elt x scope cl s S P Fin j i ys nw := by
    intro j
    induction j with
    | zero =>
      intro i ys nw hi hy
      obtain rfl : i = n := by omega
      exact LCg.CompRest.zero (fin ys nw hy)
    | succ j ih =>
      intro i ys nw hi hy
      refine LCg.CompRest.succ ?_
      intro v I oI C oC D m₂ h tk E' hv hC hx F N off ne
      refine wpAny_mono (turn i v ys nw I oI C oC D m₂ h tk E' (by omega) hv hy hC hx F N off ne) (fun y s₂ hq => ?_) fun _ _ e => e
      obtain ⟨h', tk', nw2, e, F', N', off', hS, hZ⟩ := hq
      exact ⟨h', tk', nw2, e, F', N', off', hS, ih (i + 1) _ _ (by omega) hZ⟩
  exact key n 0 [] news (by omega) h0
end
/-- the names as values -/
inductive Names : List Value → List Str → Prop where
  | nil : Names [] []
  | cons {c : Str} {t : Tok} {vs : List Value} {ns : List Str} : Names vs ns → Names (.str c t :: vs) (c :: ns)
theorem Names.get {vs : List Value} {ns : List Str} (h : Names vs ns) : ∀ (i : Nat) (v : Value), vs[i]? = some v → ∃ c t, v = Value.str c t ∧ ns[i]? = some c := by
  induction h with
  | nil => intro i v hv; cases i <;> cases hv
  | @cons c t _ _ _ ih =>
    intro i v hv
    cases i with
    | zero => cases hv; exact ⟨c, t, rfl, rfl⟩
    | succ i => exact ih i v hv
theorem Names.length {vs : List Value} {ns : List Str} (h : Names vs ns) : vs.length = ns.length := by
  induction h with
  | nil => rfl
  | cons _ ih => simp [ih]
theorem map_take_next {ns : List Str} {i : Nat} {c : Str} (h : ns[i]? = some c) : (ns.take (i + 1)).map Op.var = (ns.take i).map Op.var ++ [Op.var c] := by
  rw [List.take_add_one, h]; simp
end
local macro_rules | `(tactic| walk_at "zz") => `(tactic| skip)
theorem filled_PH : ∀ (w : World) (h : Heap), (hd.heap_39 w.params).In h → PySem.Challenge.rw_bq0029_01.wellSaid = true → True := by
  k_fill
  w_top off
  intros; trivial
section
/-- the places, from the top, at which one of the names lies -/
def hitsTo (ns : List Str) (os : List Op) (i : Nat) : List Nat := (List.range i).filter fun j => (os.reverse[j]?).any (hit ns)
theorem hitsTo_yes {ns : List Str} {os : List Op} {i : Nat} {o : Op} (h : os.reverse[i]? = some o) (hh : hit ns o = true) : hitsTo ns os (i + 1) = hitsTo ns os i ++ [i] := by
  unfold hitsTo
  rw [List.range_succ, List.filter_append]
  simp [h, hh]
theorem hitsTo_no {ns : List Str} {os : List Op} {i : Nat} {o : Op} (h : os.reverse[i]? = some o) (hh : hit ns o = false) : hitsTo ns os (i + 1) = hitsTo ns os i := by
  unfold hitsTo
  rw [List.range_succ, List.filter_append]
  simp [h, hh]
theorem hitsTo_le {ns : List Str} {os : List Op} {i j : Nat} (h : i ≤ j) : (hitsTo ns os i).length ≤ (hitsTo ns os j).length := by
  induction j with
  | zero => obtain rfl : i = 0 := by omega
            exact Nat.le_refl _
  | succ j ih =>
    rcases Nat.lt_or_ge j i with h1 | h1
    · obtain rfl : i = j + 1 := by omega
      exact Nat.le_refl _
    · refine Nat.le_trans (ih h1) ?_
      unfold hitsTo
      rw [List.range_succ, List.filter_append, List.length_append]
      exact Nat.le_add_right _ _
/-- what the loop keeps -/
inductive Phi (ns : List Str) (os : List Op) (i : Nat) : Value → Prop where
  | none : hitsTo ns os i = [] → Phi ns os i (.ref 165)
  | one {j : Nat} {t : Tok} : hitsTo ns os i = [j] → Phi ns os i (.int (-(j : Int)) t)
section
variable {w : World} {dp un : Nat} {gd : Option (List Code)} {cn : Str} {cs : Scope} {a : Addr} {ccd : Value} {cl : List (Str × Addr)} {A₀ : Around} {h₀ : Heap} {L : Addr} {m : Str → Option Value} {news news' : List (Addr × Obj)} {s : Shared}
    {mean : ExcName → Option Value} {mg mb : Str → Option Value} {Q E : Value → Shared → Prop}
local macro_rules | `(tactic| walk_at "exec For Tuple Call cons nil") => `(tactic| (k_here; (rename Fr _ _ _ _ => lF'); (with_unfolding_all refine' For_turns lF' ?_; k_whole)))
local macro_rules | `(tactic| walk_at "eval ListComp") => `(tactic| (refine held ?_))
local macro_rules | `(tactic| walk_at "CompSrc") => `(tactic| (refine held ?_))
local macro_rules | `(tactic| walk_at "compareOp In") => `(tactic| (k_here; (with_reducible show wpAny _ _ (compareOp CmpOp.In _ (Value.ref _)) _ _ _); k_dflt (refine' in_names ?C ?k ?P ?ps ?v ?dp ?un ?_; (case C => walk_at "cx"); (case k => exact rfl); (case P => k_mem); (case ps => (refine OpsIn.mono (by assumption) ?_; walk_at "sub")); (case v => (refine OpIn.mono (by assumption) ?_; walk_at "sub")); (case dp => walk_at "room"); (case un => walk_at "room")); intro h' tk' F' N'; (try k_sweep)))
local macro_rules | `(tactic| walk_at "formatField ref") => `(tactic| (k_here; k_dflt (refine' list_field ?C ?k ?gd ?S ?os ?sm ?h0 ?sz ?dp ?un ?_; (case C => walk_at "cx"); (case k => exact rfl); (case gd => exact rfl); (case S => k_mem); (case os => (refine OpsIn.mono (by assumption) ?_; walk_at "sub")); (case sm => assumption); (case h0 => omega); (case sz => omega); (case dp => walk_at "room"); (case un => walk_at "room")); intro y' t' h' tk' hy' F' N'; (try k_sweep)))
local macro_rules | `(tactic| walk_at "CompEnd") => `(tactic| (refine held ?_))
set_option maxHeartbeats 16000000 in
theorem phi_spec {M D S NM : Addr} {vs nvs : List Value} {os : List Op} {ns : List Str} {n n2 : Nat}
    (C : Cx w A₀ h₀ h₀ [] L m news s.heap mean mg mb) (hk : cs.kind = .function) (hM : ModelAt w news M D S) (hdp : dp < 600) (hun : un < 600) (hgd : gd = some [])
    (hsz : vs.length ≤ 100) (hS : (S, listOf vs.toArray n) ∈ news) (hos : OpsIn w news vs os) (hsm : ∀ o ∈ os, o.small)
    (hNM : (NM, listOf nvs.toArray n2) ∈ news) (hns : Names nvs ns) (hnz : ns.length ≤ 3) (hn0 : 0 < ns.length) (hn3 : ∀ c ∈ ns, c = Str.ofString "%x" ∨ c = Str.ofString "%y" ∨ c = Str.ofString "%z")
    (ret0 : ∀ h' tk', hitsTo ns os os.length = [] → Fr h₀ L h' m → News h₀ L h' news → Q .none { s with heap := h', toks := tk' })
    (ret1 : ∀ j t h' tk', hitsTo ns os os.length = [j] → Fr h₀ L h' m → News h₀ L h' news → Q (.int (-(j : Int)) t) { s with heap := h', toks := tk' })
    (ret2 : ∀ t h' tk', 2 ≤ (hitsTo ns os os.length).length → Fr h₀ L h' m → News h₀ L h' news → Q (.str (Str.ofString "two") t) { s with heap := h', toks := tk' }) :
    wpAny (model PySem.Challenge.rw_bq0029_01.row.prog w) (ktrTop dp un gd cn cs L a ccd cl []) (call (.ref 301) [.ref M, .ref NM]) Q E s := by
  obtain ⟨B, F, X, N, T⟩ := C
  obtain ⟨hi, td, hdd⟩ := hM
  have hnl := hns.length
  have hol := hos.length
  subst hgd
  refine wpAny_call ?_
  walk_at "enterT"
  k_steps
  (rename Fr _ _ _ _ => kFr)
  unfold Held
  k_dflt (refine LCg.ListComp_U (F₀ := kFr) (by with_unfolding_all rfl) (by decide) (by rfl) (by decide) (by rfl) ?_)
  k_steps
  (rename News _ _ _ _ => kNw)
  unfold Held
  k_dflt (refine LCg.CompSrc.ledger (by rfl) kFr kNw hNM (by rw [sizeLine_eq, List.size_toArray]; omega) ?_)
  intro g2
  refine comp_grow (fun i ys nw => ∃ add, nw = add ++ news ∧ OpsIn w add ys ((ns.take i).map Op.var)) ⟨[], rfl, .nil⟩ ?_ ?_
  · intro i v ys nw I oI C oC D m₂ h tk E' hi' hP hZ hC hx F₁ N₁ off ne
    try clear kFr
    try clear kNw
    obtain ⟨add, rfl, hadd⟩ := hZ
    obtain ⟨c, tc, rfl, hc⟩ := hns.get i v (by simpa using hP)
    have hc3 := hn3 c (List.mem_of_getElem? hc)
    rw [map_take_next hc]
    clear hP hc
    rcases hc3 with rfl | rfl | rfl
    all_goals k_steps
    all_goals (
      unfold Held
      (rename News _ _ _ _ => kN2)
      (rename Fr _ _ _ _ => kF2)
      refine' LCg.CompEnd.intro kF2 kN2 ((_, instObj 126 _) :: (_, dictOf [ent w "value" _ (.str _ _), ent w "_hash" _ .none] 2) :: (add ++ news)) ?sub ?off ?src ⟨[(_, instObj 126 _), (_, dictOf [ent w "value" _ (.str _ _), ent w "_hash" _ .none] 2)] ++ add, rfl, OpsIn.append (hadd.mono fun p hp => List.mem_append_right _ hp) (.cons (.var List.mem_cons_self (List.mem_cons_of_mem _ List.mem_cons_self)) .nil)⟩
      case sub => exact List.forall_mem_cons.mpr ⟨by k_mem, List.forall_mem_cons.mpr ⟨by k_mem, List.forall_mem_cons.mpr ⟨by k_mem, List.forall_mem_cons.mpr ⟨by k_mem, List.forall_mem_cons.mpr ⟨by k_mem, fun p hp => by k_mem⟩⟩⟩⟩⟩
      case off => exact And.intro ⟨by k_ne, by k_ne, by k_ne⟩ (And.intro ⟨by k_ne, by k_ne, by k_ne⟩ off)
      case src => exact Or.inr ⟨_, by k_mem, rfl, _, rfl⟩)
  · intro ys nw hZ
    replace hZ : ∃ add, nw = add ++ news ∧ OpsIn w add ys ((ns.take nvs.toArray.size).map Op.var) := hZ
    rw [List.take_of_length_le (by rw [List.size_toArray, hnl]; exact Nat.le_refl _)] at hZ
    obtain ⟨add, rfl, hadd⟩ := hZ
    intro D1 h1 tk1 F₁ N₁ off1
    try clear kFr
    try clear kNw
    have hyl := hadd.length
    rw [List.length_map] at hyl
    have hsmn : ∀ o ∈ ns.map Op.var, o.small := fun o ho => by
      obtain ⟨c, hc, rfl⟩ := List.mem_map.mp ho
      rcases hn3 c hc with h | h | h
      · exact .inl h
      · exact .inr (.inl h)
      · exact .inr (.inr (.inl h))
    k_steps
    (rename Fr _ _ _ _ => kFr)
    (rename News _ _ _ _ => kNw)
    (rename _ < _ ∧ AllLt _ _ => kLt')
    k_dflt (refine' iter_enumRevR (xr := Str.ofString "ret") (fun i v => Phi ns os i v) ?hxi ?hxc ?hp ?hh kFr kNw ?hl ?hoff ?h0 ?hj ?turn ?done)
    case hxi => rfl
    case hxc => rfl
    case hp => rfl
    case hh => rfl
    case hl => k_mem
    case hoff => exact List.forall_mem_cons.mpr ⟨kLt'.1, lt_of_all kLt'.2⟩
    case h0 => rfl
    case hj => exact .none rfl
    case turn =>
      intro i x t v h tk own hi' hx hPhi hoff F₁ N₁
      try clear kFr
      try clear kNw
      obtain ⟨o1, ho1, hv1⟩ := hos.rev_get hi'
      rw [← hx] at hv1
      cases hPhi with
      | none hz =>
        k_steps
        · (rename hit _ _ = true => hh)
          refine InvEndG.intro (by assumption) (by assumption) ⟨fun z h1 h2 h3 => by simp only [if_neg h1, if_neg h2, if_neg h3], rfl, _, by rfl, .one ?_⟩ hoff (fun p hp => by k_mem) (fun p hp => by k_mem)
          rw [hitsTo_yes ho1 hh, hz]; rfl
        · (rename hit _ _ = false => hh)
          refine InvEndG.intro (by assumption) (by assumption) ⟨fun z h1 h2 h3 => by simp only [if_neg h1, if_neg h2, if_neg h3], rfl, _, by rfl, .none ?_⟩ hoff (fun p hp => by k_mem) (fun p hp => by k_mem)
          rw [hitsTo_no ho1 hh, hz]
      | one hz =>
        k_steps
        · (rename hit _ _ = true => hh)
          (rename News h₀ _ _ _ => kNn)
          have hle := hitsTo_le (ns := ns) (os := os) (i := i + 1) (j := os.length) (by omega)
          rw [hitsTo_yes ho1 hh, hz] at hle
          exact ret2 _ _ _ hle (by assumption) (fun p hp => kNn p (by k_mem))
        · (rename hit _ _ = false => hh)
          refine InvEndG.intro (by assumption) (by assumption) ⟨fun z h1 h2 h3 => by simp only [if_neg h1, if_neg h2, if_neg h3], rfl, _, by rfl, .one ?_⟩ hoff (fun p hp => by k_mem) (fun p hp => by k_mem)
          rw [hitsTo_no ho1 hh, hz]
    case done =>
      intro u u' v h tk hPhi F₁ N₁
      try clear kFr
      try clear kNw
      rw [hol] at hPhi
      cases hPhi with
      | none hz =>
        k_steps
        (rename News h₀ _ _ _ => kNn)
        exact ret0 _ _ hz (by assumption) (fun p hp => kNn p (by k_mem))
      | one hz =>
        k_steps
        (rename News h₀ _ _ _ => kNn)
        exact ret1 _ _ _ _ hz (by assumption) (fun p hp => kNn p (by k_mem))
end
end
local macro_rules | `(tactic| walk_at "zz") => `(tactic| skip)
local macro_rules | `(tactic| walk_at "zz") => `(tactic| skip)
local macro_rules | `(tactic| walk_at "zz") => `(tactic| skip)
local macro_rules | `(tactic| walk_at "zz") => `(tactic| skip)
local macro_rules | `(tactic| walk_at "zz") => `(tactic| skip)
local macro_rules | `(tactic| walk_at "zz") => `(tactic| skip)
local macro_rules | `(tactic| walk_at "zz") => `(tactic| skip)
theorem filled_LI : ∀ (w : World) (h : Heap), (hd.heap_39 w.params).In h → PySem.Challenge.rw_bq0029_01.wellSaid = true → True := by
  k_fill
  w_top off
  intros; trivial
section
section
variable {prog : Program} {w : World} {A : Around} {E : Value → Shared → Prop} {s : Shared} {env : Env} {h₀ : Heap} {x : Str} {body : List Stmt} {Q : Flow → Shared → Prop}
set_option maxHeartbeats 3200000 in
/-- a loop over a range by an invariant -/
theorem range_inv {r : Addr} {b₀ : Int} {t₀ u₀ v₀ : Tok} {n : Nat} {m₀ : Str → Option Value} {news nx₀ : List (Addr × Obj)} (J : Nat → (Str → Option Value) → List (Addr × Obj) → Prop)
    (hh : A.handled = none) (hr : IsRange s.heap r 0 b₀ 1 t₀ u₀ v₀) (hsmall : Builtin.Range.small 0 b₀ 1 = true) (hsz : Builtin.Range.rangeSize 0 b₀ 1 = (n : Int)) (F : Fr h₀ env.locals s.heap m₀) (N : News h₀ env.locals s.heap news) (hn : ∀ p ∈ nx₀, p ∈ news) (hj : J 0 m₀ nx₀)
    (turn : ∀ i t m₁ nx h tk own, i < n → OwnOff own (nx.map (·.1)) → J i m₁ nx → Fr h₀ env.locals h (fun y => if y = x then some (.int (i : Int) t) else m₁ y) → News h₀ env.locals h (nx ++ own) →
      wpAny (model prog w) A (execs body env) (InvPostG h₀ env.locals (J (i + 1)) own { s with heap := h, toks := tk } Q) E { s with heap := h, toks := tk })
    (done : ∀ m₁ nx h tk, J n m₁ nx → Fr h₀ env.locals h m₁ → News h₀ env.locals h nx → Q .next { s with heap := h, toks := tk }) :
    wpAny (model prog w) A (pyIter (.ref r)) (fun it s₂ => LoopAtV prog w A h₀ env x body Q E it s₂) E s := by
  refine wpAny_pyIter_range hr hsmall ?_
  have W : Walks prog w A s.heap.objs.size [s.heap.objs.size] [s.heap.objs.size] n (fun i v => i < n ∧ ∃ t, v = .int ((0 : Int) + i * 1) t)
      (fun i h => IsRangeIter h s.heap.objs.size ((0 : Int) + (i : Nat) * 1) ((n : Int) - (i : Nat)) 1) := (Walks.range hh _ 0 1 n).bound
  refine kdr_loop J W (fun _ h => h) (fun _ h => h) ?_ ?_ ?_ ?_ (by show IsRangeIter _ _ _ _ _; rw [hsz]; simpa using Heap.get?_push_size _ rfl) (F.push _) (fun p hp => ⟨Heap.get?_push_of_some _ (N p (hn p hp)).1, (N p (hn p hp)).2⟩) hj ?_ ?_
  · intro i h hi b hb
    rw [List.mem_singleton.mp hb]
    exact ⟨_, hi⟩
  · intro hm
    exact absurd F.ns.lt ((List.mem_singleton.mp hm) ▸ Nat.lt_irrefl _)
  · intro b hb
    rw [List.mem_singleton.mp hb]
    exact next_is_new F
  · intro p hp hI
    exact absurd (Heap.lt_size (N p (hn p hp)).1) ((List.mem_singleton.mp hI) ▸ Nat.lt_irrefl _)
  · rintro i v m₁ nx h tk own hi ⟨_, t, rfl⟩ hoff hJ F₁ N₁
    have e1 : (0 : Int) + (i : Int) * 1 = (i : Int) := by omega
    rw [e1] at F₁
    exact turn i t m₁ nx h tk own hi hoff hJ F₁ N₁
  · intro m₁ nx h tk hJ F₁ N₁
    exact done m₁ nx h tk hJ F₁ N₁
end
/-- a tuple -/
abbrev tupObj (vs : List Value) : Obj := { cls := .type "tuple", data := .seq vs.toArray 0 }
/-- what was kept -/
inductive KeptOk (w : World) (rest : List (Addr × Obj)) : Value → Prop where
  | none : KeptOk w rest .none
  | some {K M D S R : Addr} {vs : List Value} {os : List Op} {n n2 : Nat} : (K, tupObj [.ref M, .ref R]) ∈ rest → ModelAt w rest M D S → (S, listOf vs.toArray n) ∈ rest → (R, listOf vs.toArray n2) ∈ rest → OpsIn w rest vs os → (∀ o ∈ os, o.small) → vs.length ≤ 20 → KeptOk w rest (.ref K)
abbrev lawNames : List Str := [Str.ofString "k", Str.ofString "pick", Str.ofString "new", Str.ofString "kind", Str.ofString "depth", Str.ofString "at", Str.ofString "kept"]
/-- what the main loop keeps -/
def LJ (w : World) (m₀ : Str → Option Value) (M D S rc nc : Addr) (onc : Obj) (i : Nat) (m₁ : Str → Option Value) (nx : List (Addr × Obj)) : Prop :=
  (∀ z, z ∉ lawNames → m₁ z = m₀ z) ∧ ∃ (vs : List Value) (os : List Op) (n n2 : Nat) (R : Addr) (oc : Obj) (rest : List (Addr × Obj)) (kv : Value),
    nx = (S, listOf vs.toArray n) :: (rc, oc) :: (nc, onc) :: rest ∧ oc.data = .cell (some (.ref R)) ∧ (∀ p ∈ rest, p.1 ≠ S) ∧ (∀ p ∈ rest, p.1 ≠ rc) ∧ (∀ p ∈ rest, p.1 ≠ nc) ∧
    ModelAt w rest M D S ∧ (R, listOf vs.toArray n2) ∈ rest ∧ OpsIn w rest vs os ∧ (∀ o ∈ os, o.small) ∧ vs.length ≤ i ∧ m₁ (Str.ofString "kept") = some kv ∧ KeptOk w rest kv
theorem ModelAt.mono {w : World} {news news' : List (Addr × Obj)} {M D S : Addr} (h : ModelAt w news M D S) (hs : ∀ p ∈ news, p ∈ news') : ModelAt w news' M D S :=
  ⟨hs _ h.inst, h.dict.elim fun t ht => ⟨t, hs _ ht⟩⟩
theorem KeptOk.mono {w : World} {news news' : List (Addr × Obj)} {v : Value} (h : KeptOk w news v) (hs : ∀ p ∈ news, p ∈ news') : KeptOk w news' v := by
  cases h with
  | none => exact .none
  | some a b c d e f g => exact .some (hs _ a) (b.mono hs) (hs _ c) (hs _ d) (e.mono hs) f g
theorem law_fr {h₀ h : Heap} {L : Addr} {m₀ m₁ : Str → Option Value} {v : Option Value} {kv : Value} (hm : ∀ z, z ∉ lawNames → m₁ z = m₀ z) (hk : m₁ (Str.ofString "kept") = some kv) (F : Fr h₀ L h (fun y => if y = Str.ofString "k" then v else m₁ y)) :
    Fr h₀ L h (fun y => if y = Str.ofString "k" then v else if y = Str.ofString "kept" then some kv else if y = Str.ofString "pick" then m₁ (Str.ofString "pick") else if y = Str.ofString "new" then m₁ (Str.ofString "new") else if y = Str.ofString "kind" then m₁ (Str.ofString "kind") else if y = Str.ofString "depth" then m₁ (Str.ofString "depth") else if y = Str.ofString "at" then m₁ (Str.ofString "at") else m₀ y) := by
  have e : (fun y => if y = Str.ofString "k" then v else m₁ y) = (fun y => if y = Str.ofString "k" then v else if y = Str.ofString "kept" then some kv else if y = Str.ofString "pick" then m₁ (Str.ofString "pick") else if y = Str.ofString "new" then m₁ (Str.ofString "new") else if y = Str.ofString "kind" then m₁ (Str.ofString "kind") else if y = Str.ofString "depth" then m₁ (Str.ofString "depth") else if y = Str.ofString "at" then m₁ (Str.ofString "at") else m₀ y) := by
    funext y
    by_cases h1 : y = Str.ofString "k"
    · simp only [if_pos h1]
    · simp only [if_neg h1]
      by_cases h2 : y = Str.ofString "kept"
      · rw [if_pos h2, h2]; exact hk
      · rw [if_neg h2]
        by_cases h3 : y = Str.ofString "pick"
        · rw [if_pos h3, h3]
        · rw [if_neg h3]
          by_cases h4 : y = Str.ofString "new"
          · rw [if_pos h4, h4]
          · rw [if_neg h4]
            by_cases h5 : y = Str.ofString "kind"
            · rw [if_pos h5, h5]
            · rw [if_neg h5]
              by_cases h6 : y = Str.ofString "depth"
              · rw [if_pos h6, h6]
              · rw [if_neg h6]
                by_cases h7 : y = Str.ofString "at"
                · rw [if_pos h7, h7]
                · rw [if_neg h7]
                  refine hm y ?_
                  simp only [lawNames, List.mem_cons, List.not_mem_nil, or_false, not_or]
                  exact ⟨h1, h3, h4, h5, h6, h7, h2⟩
  rwa [e] at F
section
variable {prog : Program} {w : World} {A : Around} {E : Value → Shared → Prop} {s : Shared} {env : Env} {h₀ : Heap} {body : List Stmt} {Q : Flow → Shared → Prop}
theorem law_loop {r M D S rc nc : Addr} {onc : Obj} {b₀ : Int} {t₀ u₀ v₀ : Tok} {n : Nat} {m₀ : Str → Option Value} {news nx₀ : List (Addr × Obj)}
    (hh : A.handled = none) (hr : IsRange s.heap r 0 b₀ 1 t₀ u₀ v₀) (hsmall : Builtin.Range.small 0 b₀ 1 = true) (hsz : Builtin.Range.rangeSize 0 b₀ 1 = (n : Int)) (F : Fr h₀ env.locals s.heap m₀) (N : News h₀ env.locals s.heap news) (hn : ∀ p ∈ nx₀, p ∈ news) (hj : LJ w m₀ M D S rc nc onc 0 m₀ nx₀)
    (turn : ∀ i t m₁ nx h tk own, i < n → OwnOff own (nx.map (·.1)) → LJ w m₀ M D S rc nc onc i m₁ nx → Fr h₀ env.locals h (fun y => if y = Str.ofString "k" then some (.int (i : Int) t) else m₁ y) → News h₀ env.locals h (nx ++ own) →
      wpAny (model prog w) A (execs body env) (InvPostG h₀ env.locals (LJ w m₀ M D S rc nc onc (i + 1)) own { s with heap := h, toks := tk } Q) E { s with heap := h, toks := tk })
    (done : ∀ m₁ nx h tk, LJ w m₀ M D S rc nc onc n m₁ nx → Fr h₀ env.locals h m₁ → News h₀ env.locals h nx → Q .next { s with heap := h, toks := tk }) :
    wpAny (model prog w) A (pyIter (.ref r)) (fun it s₂ => LoopAtV prog w A h₀ env (Str.ofString "k") body Q E it s₂) E s :=
  range_inv (LJ w m₀ M D S rc nc onc) hh hr hsmall hsz F N hn hj turn done
end
theorem perm7 {h₀ h : Heap} {L : Addr} {a b c d e f g : Addr × Obj} (N : News h₀ L h [a, b, c, d, e, f, g]) : News h₀ L h [c, g, f, b, d, e] := fun p hp => N p (by
  simp only [List.mem_cons, List.not_mem_nil, or_false] at hp ⊢
  rcases hp with h | h | h | h | h | h <;> simp [h])
theorem lj_start {w : World} {h₀ h : Heap} {L M D S R rc nc : Addr} {oc onc : Obj} {nS nR : Nat} {t : Tok} {m₀ : Str → Option Value} {xc : Option Value}
    (N : News h₀ L h [(S, listOf #[] nS), (rc, oc), (nc, onc), (R, listOf #[] nR), (M, instObj 254 D), (D, dictOf [ent w "_stack" t (.ref S)] 1)]) (hoc : oc.data = .cell (some (.ref R))) (hon : onc.data = .cell xc) (hk : m₀ (Str.ofString "kept") = some .none)
    (hRS : R ≠ S) (hrn : rc ≠ nc) : LJ w m₀ M D S rc nc onc 0 m₀ [(S, listOf #[] nS), (rc, oc), (nc, onc), (R, listOf #[] nR), (M, instObj 254 D), (D, dictOf [ent w "_stack" t (.ref S)] 1)] := by
  have key : ∀ {y z : Addr} {a b : Obj}, (y, a) ∈ [(S, listOf #[] nS), (rc, oc), (nc, onc), (R, listOf #[] nR), (M, instObj 254 D), (D, dictOf [ent w "_stack" t (.ref S)] 1)] → (z, b) ∈ [(S, listOf #[] nS), (rc, oc), (nc, onc), (R, listOf #[] nR), (M, instObj 254 D), (D, dictOf [ent w "_stack" t (.ref S)] 1)] → a.data ≠ b.data → y ≠ z := fun ha hb hne e => by
    subst e
    have h1 := (N _ ha).1
    rw [(N _ hb).1] at h1
    exact hne (congrArg Obj.data (Option.some.inj h1).symm)
  refine ⟨fun _ _ => rfl, [], [], nS, nR, R, oc, _, .none, rfl, hoc, ?_, ?_, ?_, ⟨by simp, t, by simp⟩, by simp, .nil, (fun _ h => nomatch h), Nat.le_refl _, hk, .none⟩
  all_goals (intro p hp; simp only [List.mem_cons, List.not_mem_nil, or_false] at hp)
  · rcases hp with rfl | rfl | rfl
    · exact hRS
    · exact key (a := instObj 254 D) (b := listOf #[] nS) (by simp) (by simp) (by simp [W.listOf])
    · exact key (a := dictOf [ent w "_stack" t (.ref S)] 1) (b := listOf #[] nS) (by simp) (by simp) (by simp [W.listOf])
  · rcases hp with rfl | rfl | rfl
    · exact key (a := listOf #[] nR) (b := oc) (by simp) (by simp) (by rw [hoc]; simp [W.listOf])
    · exact key (a := instObj 254 D) (b := oc) (by simp) (by simp) (by rw [hoc]; simp)
    · exact key (a := dictOf [ent w "_stack" t (.ref S)] 1) (b := oc) (by simp) (by simp) (by rw [hoc]; simp)
  · rcases hp with rfl | rfl | rfl
    · exact key (a := listOf #[] nR) (b := onc) (by simp) (by simp) (by rw [hon]; simp [W.listOf])
    · exact key (a := instObj 254 D) (b := onc) (by simp) (by simp) (by rw [hon]; simp)
    · exact key (a := dictOf [ent w "_stack" t (.ref S)] 1) (b := onc) (by simp) (by simp) (by rw [hon]; simp)
theorem perm_add {a b c p : Addr × Obj} {add rest own : List (Addr × Obj)} (hp : p ∈ a :: b :: c :: (add ++ rest ++ own)) : p ∈ add ++ (a :: b :: c :: (rest ++ own)) := by
  simp only [List.mem_cons, List.mem_append] at hp ⊢
  rcases hp with h | h | h | (h | h) | h <;> simp [h]
/-- the state behind the two numbers and the operand -/
structure LT (w : World) (h₀ h : Heap) (L M D S rc nc R : Addr) (oc onc : Obj) (vs : List Value) (os : List Op) (n n2 : Nat) (r4 own : List (Addr × Obj)) (kv : Value) : Prop where
  N : News h₀ L h ((S, listOf vs.toArray n) :: (rc, oc) :: (nc, onc) :: (r4 ++ own))
  fS : ∀ p ∈ r4 ++ own, p.1 ≠ S
  fR : ∀ p ∈ r4 ++ own, p.1 ≠ rc
  fN : ∀ p ∈ r4 ++ own, p.1 ≠ nc
  fo : OwnOff own (r4.map (·.1))
  MA : ModelAt w r4 M D S
  RL : (R, listOf vs.toArray n2) ∈ r4
  OS : OpsIn w r4 vs os
  KO : KeptOk w r4 kv
theorem LT.start {w : World} {h₀ h : Heap} {L M D S rc nc R : Addr} {oc onc : Obj} {vs : List Value} {os : List Op} {n n2 : Nat} {rest own add : List (Addr × Obj)} {kv : Value}
    (N : News h₀ L h (add ++ ((S, listOf vs.toArray n) :: (rc, oc) :: (nc, onc) :: (rest ++ own)))) (hadd : ∀ p ∈ (S, listOf vs.toArray n) :: (rc, oc) :: (nc, onc) :: (rest ++ own), ∀ q ∈ add, p.1 < q.1)
    (hS : ∀ p ∈ rest, p.1 ≠ S) (hR : ∀ p ∈ rest, p.1 ≠ rc) (hN : ∀ p ∈ rest, p.1 ≠ nc) (hoff : OwnOff own (((S, listOf vs.toArray n) :: (rc, oc) :: (nc, onc) :: rest).map (·.1)))
    (MA : ModelAt w rest M D S) (RL : (R, listOf vs.toArray n2) ∈ rest) (OS : OpsIn w rest vs os) (KO : KeptOk w rest kv) : LT w h₀ h L M D S rc nc R oc onc vs os n n2 (add ++ rest) own kv := by
  have hm : ∀ p ∈ rest, p ∈ add ++ rest := fun p hp => List.mem_append_right _ hp
  have key : ∀ (x : Addr) (ob : Obj), (x, ob) ∈ (S, listOf vs.toArray n) :: (rc, oc) :: (nc, onc) :: (rest ++ own) → (∀ p ∈ rest, p.1 ≠ x) → (∀ p ∈ own, p.1 ≠ x) → ∀ p ∈ add ++ rest ++ own, p.1 ≠ x := fun x ob hx h1 h2 p hp => by
    rcases List.mem_append.mp hp with hp | hp
    · rcases List.mem_append.mp hp with hp | hp
      · exact (Nat.ne_of_lt (hadd _ hx p hp)).symm
      · exact h1 p hp
    · exact h2 p hp
  refine ⟨fun p hp => N p (perm_add hp), key S _ List.mem_cons_self hS (fun p hp => hoff p hp S (by simp)), key rc oc (List.mem_cons_of_mem _ List.mem_cons_self) hR (fun p hp => hoff p hp rc (by simp)), key nc onc (List.mem_cons_of_mem _ (List.mem_cons_of_mem _ List.mem_cons_self)) hN (fun p hp => hoff p hp nc (by simp)), ?_, MA.mono hm, hm _ RL, OS.mono hm, KO.mono hm⟩
  intro p hp b hb
  obtain ⟨q, hq, rfl⟩ := List.mem_map.mp hb
  rcases List.mem_append.mp hq with hq | hq
  · exact Nat.ne_of_lt (hadd p (by simp [hp]) q hq)
  · exact hoff p hp _ (by simp only [List.map_cons, List.mem_cons]; exact .inr (.inr (.inr (List.mem_map.mpr ⟨q, hq, rfl⟩))))
theorem news_tail {h₀ h : Heap} {L : Addr} {a : Addr × Obj} {l : List (Addr × Obj)} (N : News h₀ L h (a :: l)) : News h₀ L h l := fun p hp => N p (List.mem_cons_of_mem _ hp)
theorem dep_lt {x : Int} {l : Nat} (h : x.fmod ((l : Int) + 1) ≠ (l : Int)) : 0 ≤ x.fmod ((l : Int) + 1) ∧ x.fmod ((l : Int) + 1) < (l : Int) := by
  have h1 := fmod_lo x (n := (l : Int) + 1) (by omega)
  have h2 := fmod_hi x (n := (l : Int) + 1) (by omega)
  omega
theorem dep_le (x : Int) (l : Nat) : 0 ≤ x.fmod ((l : Int) + 1) ∧ x.fmod ((l : Int) + 1) ≤ (l : Int) := by
  have h1 := fmod_lo x (n := (l : Int) + 1) (by omega)
  have h2 := fmod_hi x (n := (l : Int) + 1) (by omega)
  omega
theorem three_ne {h₀ h : Heap} {L M D S R rc nc : Addr} {oc onc : Obj} {nS nR : Nat} {ob : Obj} {xc : Option Value} {yc : Option Value}
    (N : News h₀ L h [(S, listOf #[] nS), (rc, oc), (nc, onc), (R, listOf #[] nR), (M, instObj 254 D), (D, ob)]) (hoc : oc.data = .cell yc) (hon : onc.data = .cell xc) : rc ≠ S ∧ nc ≠ S := by
  have key : ∀ {y z : Addr} {a b : Obj}, News h₀ L h [(y, a), (z, b)] → a.data ≠ b.data → y ≠ z := fun Nn hne e => by
    subst e
    have h1 := (Nn _ List.mem_cons_self).1
    rw [(Nn _ (List.mem_cons_of_mem _ List.mem_cons_self)).1] at h1
    exact hne (congrArg Obj.data (Option.some.inj h1).symm)
  refine ⟨key (a := oc) (b := listOf #[] nS) (fun p hp => N p ?_) (by rw [hoc]; simp [W.listOf]), key (a := onc) (b := listOf #[] nS) (fun p hp => N p ?_) (by rw [hon]; simp [W.listOf])⟩
  · simp only [List.mem_cons, List.not_mem_nil, or_false] at hp ⊢
    rcases hp with h | h <;> simp [h]
  · simp only [List.mem_cons, List.not_mem_nil, or_false] at hp ⊢
    rcases hp with h | h <;> simp [h]
theorem off3 {S rc nc : Addr} {oc onc : Obj} {l : List (Addr × Obj)} (h1 : rc ≠ S) (h2 : nc ≠ S) (h3 : ∀ p ∈ l, p.1 ≠ S) : ∀ p ∈ (rc, oc) :: (nc, onc) :: l, p.1 ≠ S := by
  intro p hp
  rcases List.mem_cons.mp hp with rfl | hp
  · exact h1
  · rcases List.mem_cons.mp hp with rfl | hp
    · exact h2
    · exact h3 p hp
theorem dep_eq {x y : Int} {l : Nat} (h : x.fmod ((l : Int) + 1) = y) : 0 ≤ y ∧ y ≤ (l : Int) := h ▸ dep_le x l
theorem dep_ne {x y : Int} {l : Nat} (hu : x.fmod ((l : Int) + 1) ≠ y) : 0 ≤ x.fmod ((l : Int) + 1) ∧ x.fmod ((l : Int) + 1) ≤ (l : Int) := dep_le x l
end
local macro_rules | `(tactic| walk_at "zz") => `(tactic| skip)
theorem filled_LM : ∀ (w : World) (h : Heap), (hd.heap_39 w.params).In h → PySem.Challenge.rw_bq0029_01.wellSaid = true → True := by
  k_fill
  w_top off
  intros; trivial
section
section
variable {prog : Program} {w : World} {A : Around} {E : Value → Shared → Prop} {s : Shared} {env : Env} {h₀ : Heap} {body : List Stmt} {Q : Flow → Shared → Prop}
/-- the main loop, where a turn is shown for any ends and any other names -/
theorem law_loop2 {r M D S SA rc nc : Addr} {onc : Obj} {b₀ : Int} {t₀ u₀ v₀ : Tok} {n : Nat} {m₀ : Str → Option Value} {news nx₀ : List (Addr × Obj)}
    (hh : A.handled = none) (hr : IsRange s.heap r 0 b₀ 1 t₀ u₀ v₀) (hsmall : Builtin.Range.small 0 b₀ 1 = true) (hsz : Builtin.Range.rangeSize 0 b₀ 1 = (n : Int)) (F : Fr h₀ env.locals s.heap m₀) (N : News h₀ env.locals s.heap news) (hn : ∀ p ∈ nx₀, p ∈ news) (hj : LJ w m₀ M D S rc nc onc 0 m₀ nx₀)
    (hmM : m₀ (Str.ofString "model") = some (.ref M)) (hmS : m₀ (Str.ofString "script") = some (.ref SA))
    (turn : ∀ (m₂ : Str → Option Value) (Q' : Flow → Shared → Prop) (E' : Value → Shared → Prop) (s' : Shared), m₂ (Str.ofString "model") = some (.ref M) → m₂ (Str.ofString "script") = some (.ref SA) → ∀ i t m₁ nx h tk own, i < n → OwnOff own (nx.map (·.1)) → LJ w m₂ M D S rc nc onc i m₁ nx → Fr h₀ env.locals h (fun y => if y = Str.ofString "k" then some (.int (i : Int) t) else m₁ y) → News h₀ env.locals h (nx ++ own) →
      wpAny (model prog w) A (execs body env) (InvPostG h₀ env.locals (LJ w m₂ M D S rc nc onc (i + 1)) own { s' with heap := h, toks := tk } Q') E' { s' with heap := h, toks := tk })
    (done : ∀ m₁ nx h tk, LJ w m₀ M D S rc nc onc n m₁ nx → Fr h₀ env.locals h m₁ → News h₀ env.locals h nx → Q .next { s with heap := h, toks := tk }) :
    wpAny (model prog w) A (pyIter (.ref r)) (fun it s₂ => LoopAtV prog w A h₀ env (Str.ofString "k") body Q E it s₂) E s :=
  law_loop hh hr hsmall hsz F N hn hj (fun i t m₁ nx h tk own a b c d e => turn m₀ Q E s hmM hmS i t m₁ nx h tk own a b c d e) done
end
/-- the turn's frame, name by name -/
abbrev turnMap (k kept pick new kind depth at' model script : Option Value) (m₀ : Str → Option Value) : Str → Option Value := fun y =>
  if y = Str.ofString "k" then k else if y = Str.ofString "kept" then kept else if y = Str.ofString "pick" then pick else if y = Str.ofString "new" then new else if y = Str.ofString "kind" then kind else if y = Str.ofString "depth" then depth else if y = Str.ofString "at" then at' else if y = Str.ofString "model" then model else if y = Str.ofString "script" then script else m₀ y
theorem turn_map {m₀ m₁ : Str → Option Value} {k kept pick new kind depth at' model script : Option Value} (hm : ∀ z, z ∉ lawNames → m₁ z = m₀ z) (h1 : m₁ (Str.ofString "k") = k) (h2 : m₁ (Str.ofString "kept") = kept) (h3 : m₁ (Str.ofString "pick") = pick) (h4 : m₁ (Str.ofString "new") = new) (h5 : m₁ (Str.ofString "kind") = kind)
    (h6 : m₁ (Str.ofString "depth") = depth) (h7 : m₁ (Str.ofString "at") = at') (h8 : m₁ (Str.ofString "model") = model) (h9 : m₁ (Str.ofString "script") = script) : m₁ = turnMap k kept pick new kind depth at' model script m₀ := by
  funext y
  show m₁ y = if y = Str.ofString "k" then k else if y = Str.ofString "kept" then kept else if y = Str.ofString "pick" then pick else if y = Str.ofString "new" then new else if y = Str.ofString "kind" then kind else if y = Str.ofString "depth" then depth else if y = Str.ofString "at" then at' else if y = Str.ofString "model" then model else if y = Str.ofString "script" then script else m₀ y
  by_cases g1 : y = Str.ofString "k"
  · rw [if_pos g1, g1, h1]
  · rw [if_neg g1]
    by_cases g2 : y = Str.ofString "kept"
    · rw [if_pos g2, g2, h2]
    · rw [if_neg g2]
      by_cases g3 : y = Str.ofString "pick"
      · rw [if_pos g3, g3, h3]
      · rw [if_neg g3]
        by_cases g4 : y = Str.ofString "new"
        · rw [if_pos g4, g4, h4]
        · rw [if_neg g4]
          by_cases g5 : y = Str.ofString "kind"
          · rw [if_pos g5, g5, h5]
          · rw [if_neg g5]
            by_cases g6 : y = Str.ofString "depth"
            · rw [if_pos g6, g6, h6]
            · rw [if_neg g6]
              by_cases g7 : y = Str.ofString "at"
              · rw [if_pos g7, g7, h7]
              · rw [if_neg g7]
                by_cases g8 : y = Str.ofString "model"
                · rw [if_pos g8, g8, h8]
                · rw [if_neg g8]
                  by_cases g9 : y = Str.ofString "script"
                  · rw [if_pos g9, g9, h9]
                  · rw [if_neg g9]
                    refine hm y ?_
                    simp only [lawNames, List.mem_cons, List.not_mem_nil, or_false, not_or]
                    exact ⟨g1, g3, g4, g5, g6, g7, g2⟩
theorem not_model : Str.ofString "model" ∉ lawNames := by decide +kernel
theorem not_script : Str.ofString "script" ∉ lawNames := by decide +kernel
/-- the frame at a turn's start -/
theorem law_fr2 {h₀ h : Heap} {L M SA : Addr} {m₀ m₁ : Str → Option Value} {v : Option Value} {kv : Value} (hm : ∀ z, z ∉ lawNames → m₁ z = m₀ z) (hk : m₁ (Str.ofString "kept") = some kv) (hM : m₀ (Str.ofString "model") = some (.ref M)) (hS : m₀ (Str.ofString "script") = some (.ref SA)) (F : Fr h₀ L h (fun y => if y = Str.ofString "k" then v else m₁ y)) :
    Fr h₀ L h (fun y => if y = Str.ofString "k" then v else if y = Str.ofString "kept" then some kv else if y = Str.ofString "pick" then m₁ (Str.ofString "pick") else if y = Str.ofString "new" then m₁ (Str.ofString "new") else if y = Str.ofString "kind" then m₁ (Str.ofString "kind") else if y = Str.ofString "depth" then m₁ (Str.ofString "depth") else if y = Str.ofString "at" then m₁ (Str.ofString "at") else if y = Str.ofString "model" then some (.ref M) else if y = Str.ofString "script" then some (.ref SA) else m₀ y) := by
  have e1 := turn_map hm rfl hk rfl rfl rfl rfl rfl ((hm _ not_model).trans hM) ((hm _ not_script).trans hS)
  have e : (fun y => if y = Str.ofString "k" then v else m₁ y) = turnMap v (some kv) (m₁ (Str.ofString "pick")) (m₁ (Str.ofString "new")) (m₁ (Str.ofString "kind")) (m₁ (Str.ofString "depth")) (m₁ (Str.ofString "at")) (some (.ref M)) (some (.ref SA)) m₀ := by
    funext y
    by_cases g : y = Str.ofString "k"
    · simp only [turnMap, if_pos g]
    · have := congrFun e1 y
      simp only [turnMap, if_neg g] at this ⊢
      exact this
  rw [e] at F
  exact F
/-- what stands between the deed and the look at it -/
def Mid (w : World) (m₀ : Str → Option Value) (h₀ : Heap) (L M D S rc nc : Addr) (onc : Obj) (v : Value) (o : Op) (i : Nat) (own : List (Addr × Obj)) (s : Shared) (f : Flow) (s' : Shared) : Prop :=
  f = .next ∧ ∃ h' tk' m' vs os n n2 R oc r4 kv, s' = { s with heap := h', toks := tk' } ∧ Fr h₀ L h' m' ∧ (∀ z, z ∉ lawNames → m' z = m₀ z) ∧ m' (Str.ofString "new") = some v ∧ m' (Str.ofString "kept") = some kv ∧
    oc.data = .cell (some (.ref R)) ∧ LT w h₀ h' L M D S rc nc R oc onc vs os n n2 r4 own kv ∧ OpIn w r4 v o ∧ (∀ o ∈ os, o.small) ∧ vs.length ≤ i + 1
theorem z63 {vs : List Value} {ns : List Int} (h : IntsAre vs ns) (hc : (ns.length : Int) ≤ 63) : vs.length ≤ 63 := by
  have := h.length
  omega
theorem Mid.intro {w : World} {m₀ m' : Str → Option Value} {h₀ h' : Heap} {L M D S rc nc R : Addr} {oc onc : Obj} {v : Value} {o : Op} {i : Nat} {own add r4 news : List (Addr × Obj)} {s : Shared} {tk' : Nat} {vs vs' : List Value} {os : List Op} {n n2 : Nat} {kv : Value}
    (F : Fr h₀ L h' m') (N : News h₀ L h' news) (hn : ∀ p ∈ (S, listOf vs.toArray n) :: (rc, oc) :: (nc, onc) :: (add ++ (r4 ++ own)), p ∈ news)
    (hoc : oc.data = .cell (some (.ref R))) (hm : ∀ z, z ∉ lawNames → m' z = m₀ z) (h1 : m' (Str.ofString "new") = some v) (h2 : m' (Str.ofString "kept") = some kv)
    (hlt : ∀ q ∈ add, @LT.lt Nat _ S q.1 ∧ @LT.lt Nat _ rc q.1 ∧ @LT.lt Nat _ nc q.1 ∧ ∀ p ∈ r4 ++ own, p.1 < q.1)
    (fS : ∀ p ∈ r4 ++ own, p.1 ≠ S) (fR : ∀ p ∈ r4 ++ own, p.1 ≠ rc) (fN : ∀ p ∈ r4 ++ own, p.1 ≠ nc) (fo : OwnOff own (r4.map (·.1)))
    (MA : ModelAt w r4 M D S) (RL : (R, listOf vs'.toArray n2) ∈ add ++ r4) (hv : vs' = vs) (OS : OpsIn w r4 vs os) (KO : KeptOk w (add ++ r4) kv) (hov : OpIn w r4 v o) (hsm : ∀ o ∈ os, o.small) (hl : vs.length ≤ i + 1) :
    Mid w m₀ h₀ L M D S rc nc onc v o i own s .next { s with heap := h', toks := tk' } := by
  subst hv
  have hr : ∀ p ∈ r4, p ∈ add ++ r4 := fun p hp => List.mem_append_right _ hp
  refine ⟨rfl, h', tk', m', vs', os, n, n2, R, oc, add ++ r4, kv, rfl, F, hm, h1, h2, hoc, ⟨fun p hp => N p (hn p ?_), ?_, ?_, ?_, ?_, MA.mono hr, RL, OS.mono hr, KO⟩, hov.mono hr, hsm, hl⟩
  · simpa only [List.append_assoc] using hp
  · intro p hp
    rw [List.append_assoc] at hp
    rcases List.mem_append.mp hp with hp | hp
    · exact Nat.ne_of_gt (hlt p hp).1
    · exact fS p hp
  · intro p hp
    rw [List.append_assoc] at hp
    rcases List.mem_append.mp hp with hp | hp
    · exact Nat.ne_of_gt (hlt p hp).2.1
    · exact fR p hp
  · intro p hp
    rw [List.append_assoc] at hp
    rcases List.mem_append.mp hp with hp | hp
    · exact Nat.ne_of_gt (hlt p hp).2.2.1
    · exact fN p hp
  · intro p hp b hb
    obtain ⟨q, hq, rfl⟩ := List.mem_map.mp hb
    rcases List.mem_append.mp hq with hq | hq
    · exact Nat.ne_of_lt ((hlt q hq).2.2.2 p (List.mem_append_right _ hp))
    · exact fo p hp _ (List.mem_map.mpr ⟨q, hq, rfl⟩)
theorem one_row {R : Addr} {ob : Obj} {P : Addr → Prop} (h : P R) : ∀ q ∈ [(R, ob)], P q.1 := fun q hq => by
  rw [List.mem_singleton.mp hq]
  exact h
/-- the same with one new row -/
theorem Mid.row {w : World} {m₀ m' : Str → Option Value} {h₀ h' : Heap} {L M D S rc nc R : Addr} {oc onc : Obj} {v : Value} {o : Op} {i : Nat} {own r4 news : List (Addr × Obj)} {s : Shared} {tk' : Nat} {vs vs' : List Value} {os : List Op} {n n2 : Nat} {kv : Value}
    (F : Fr h₀ L h' m') (N : News h₀ L h' news) (hn : ∀ p ∈ (S, listOf vs.toArray n) :: (rc, oc) :: (nc, onc) :: (R, listOf vs'.toArray n2) :: (r4 ++ own), p ∈ news)
    (hoc : oc.data = .cell (some (.ref R))) (hm : ∀ z, z ∉ lawNames → m' z = m₀ z) (h1 : m' (Str.ofString "new") = some v) (h2 : m' (Str.ofString "kept") = some kv)
    (hlt : @LT.lt Nat _ S R ∧ @LT.lt Nat _ rc R ∧ @LT.lt Nat _ nc R ∧ AllLt R (r4 ++ own))
    (fS : ∀ p ∈ r4 ++ own, p.1 ≠ S) (fR : ∀ p ∈ r4 ++ own, p.1 ≠ rc) (fN : ∀ p ∈ r4 ++ own, p.1 ≠ nc) (fo : OwnOff own (r4.map (·.1)))
    (MA : ModelAt w r4 M D S) (hv : vs' = vs) (OS : OpsIn w r4 vs os) (KO : KeptOk w r4 kv) (hov : OpIn w r4 v o) (hsm : ∀ o ∈ os, o.small) (hl : vs.length ≤ i + 1) :
    Mid w m₀ h₀ L M D S rc nc onc v o i own s .next { s with heap := h', toks := tk' } :=
  Mid.intro (add := [(R, listOf vs'.toArray n2)]) F N hn hoc hm h1 h2 (one_row (P := fun R => @LT.lt Nat _ S R ∧ @LT.lt Nat _ rc R ∧ @LT.lt Nat _ nc R ∧ ∀ p ∈ r4 ++ own, p.1 < R) ⟨hlt.1, hlt.2.1, hlt.2.2.1, lt_of_all hlt.2.2.2⟩) fS fR fN fo MA List.mem_cons_self hv OS (KO.mono fun p hp => List.mem_cons_of_mem _ hp) hov hsm hl
/-- the same where a copy was kept -/
theorem Mid.kept {w : World} {m₀ m' : Str → Option Value} {h₀ h' : Heap} {L M D S rc nc R T M' D' S' : Addr} {oc onc : Obj} {v : Value} {o : Op} {i : Nat} {own r4 add' : List (Addr × Obj)} {s : Shared} {tk' : Nat} {vs : List Value} {os : List Op} {n n2 n' : Nat}
    (F : Fr h₀ L h' m') (N : News h₀ L h' ((T, tupObj [.ref M', .ref R]) :: (add' ++ (S, listOf vs.toArray n) :: (rc, oc) :: (nc, onc) :: (r4 ++ own))))
    (hgt : ∀ p ∈ (S, listOf vs.toArray n) :: (rc, oc) :: (nc, onc) :: (r4 ++ own), ∀ q ∈ add', p.1 < q.1) (hT : ∀ p ∈ add' ++ (S, listOf vs.toArray n) :: (rc, oc) :: (nc, onc) :: (r4 ++ own), p.1 < T)
    (hoc : oc.data = .cell (some (.ref R))) (hm : ∀ z, z ∉ lawNames → m' z = m₀ z) (h1 : m' (Str.ofString "new") = some v) (h2 : m' (Str.ofString "kept") = some (.ref T))
    (fS : ∀ p ∈ r4 ++ own, p.1 ≠ S) (fR : ∀ p ∈ r4 ++ own, p.1 ≠ rc) (fN : ∀ p ∈ r4 ++ own, p.1 ≠ nc) (fo : OwnOff own (r4.map (·.1)))
    (MA : ModelAt w r4 M D S) (RL : (R, listOf vs.toArray n2) ∈ r4) (OS : OpsIn w r4 vs os) (MA' : ModelAt w add' M' D' S') (hS' : (S', listOf vs.toArray n') ∈ add') (hov : OpIn w r4 v o) (hsm : ∀ o ∈ os, o.small) (hl : vs.length ≤ i + 1) (hl20 : vs.length ≤ 20) :
    Mid w m₀ h₀ L M D S rc nc onc v o i own s .next { s with heap := h', toks := tk' } := by
  have hr : ∀ p ∈ r4, p ∈ ((T, tupObj [.ref M', .ref R]) :: add') ++ r4 := fun p hp => List.mem_append_right _ hp
  have ha : ∀ p ∈ add', p ∈ ((T, tupObj [.ref M', .ref R]) :: add') ++ r4 := fun p hp => List.mem_append_left _ (List.mem_cons_of_mem _ hp)
  refine Mid.intro (n := n) (add := (T, tupObj [.ref M', .ref R]) :: add') F N (fun p hp => ?_) hoc hm h1 h2 (fun q hq => ?_) fS fR fN fo MA (hr _ RL) rfl OS (KeptOk.some (List.mem_append_left _ List.mem_cons_self) (MA'.mono ha) (ha _ hS') (hr _ RL) (OS.mono hr) hsm hl20) hov hsm hl
  · simp only [List.mem_cons, List.mem_append] at hp ⊢
    rcases hp with h | h | h | (h | h) | h | h <;> simp [h]
  · rcases List.mem_cons.mp hq with rfl | hq
    · exact ⟨hT _ (List.mem_append_right _ List.mem_cons_self), hT _ (List.mem_append_right _ (List.mem_cons_of_mem _ List.mem_cons_self)), hT _ (List.mem_append_right _ (List.mem_cons_of_mem _ (List.mem_cons_of_mem _ List.mem_cons_self))), fun p hp => hT p (List.mem_append_right _ (List.mem_cons_of_mem _ (List.mem_cons_of_mem _ (List.mem_cons_of_mem _ hp))))⟩
    · exact ⟨hgt _ List.mem_cons_self _ hq, hgt _ (List.mem_cons_of_mem _ List.mem_cons_self) _ hq, hgt _ (List.mem_cons_of_mem _ (List.mem_cons_of_mem _ List.mem_cons_self)) _ hq, fun p hp => hgt p (List.mem_cons_of_mem _ (List.mem_cons_of_mem _ (List.mem_cons_of_mem _ hp))) _ hq⟩
/-- the end of a turn -/
theorem chk_end {w : World} {m₀ : Str → Option Value} {h₀ h' : Heap} {L M D S SA rc nc R : Addr} {oc onc : Obj} {i : Nat} {own r4 : List (Addr × Obj)} {s : Shared} {tk' : Nat} {vs : List Value} {os : List Op} {n n2 : Nat} {kv : Value} {k pick new kind depth at' : Option Value}
    (F : Fr h₀ L h' (turnMap k (some kv) pick new kind depth at' (some (.ref M)) (some (.ref SA)) m₀)) (N : News h₀ L h' ((S, listOf vs.toArray n) :: (rc, oc) :: (nc, onc) :: (r4 ++ own)))
    (hM : m₀ (Str.ofString "model") = some (.ref M)) (hSA : m₀ (Str.ofString "script") = some (.ref SA)) (hoc : oc.data = .cell (some (.ref R)))
    (fS : ∀ p ∈ r4 ++ own, p.1 ≠ S) (fR : ∀ p ∈ r4 ++ own, p.1 ≠ rc) (fN : ∀ p ∈ r4 ++ own, p.1 ≠ nc) (fo : OwnOff own (r4.map (·.1)))
    (MA : ModelAt w r4 M D S) (RL : (R, listOf vs.toArray n2) ∈ r4) (OS : OpsIn w r4 vs os) (KO : KeptOk w r4 kv) (hsm : ∀ o ∈ os, o.small) (hl : vs.length ≤ i + 1) :
    InvEndG h₀ L (LJ w m₀ M D S rc nc onc (i + 1)) own s { s with heap := h', toks := tk' } := by
  refine InvEndG.intro (nx := (S, listOf vs.toArray n) :: (rc, oc) :: (nc, onc) :: r4) F N ⟨?_, vs, os, n, n2, R, oc, r4, kv, rfl, hoc, fun p hp => fS p (List.mem_append_left _ hp), fun p hp => fR p (List.mem_append_left _ hp), fun p hp => fN p (List.mem_append_left _ hp), MA, RL, OS, hsm, hl, rfl, KO⟩ ?_ ?_ ?_
  · intro z hz
    simp only [lawNames, List.mem_cons, List.not_mem_nil, or_false, not_or] at hz
    obtain ⟨a1, a2, a3, a4, a5, a6, a7⟩ := hz
    by_cases g1 : z = Str.ofString "model"
    · subst g1; exact hM.symm
    · by_cases g2 : z = Str.ofString "script"
      · subst g2; exact hSA.symm
      · simp only [turnMap, if_neg a1, if_neg a2, if_neg a3, if_neg a4, if_neg a5, if_neg a6, if_neg a7, if_neg g1, if_neg g2]
  · intro p hp b hb
    simp only [List.map_cons, List.mem_cons] at hb
    rcases hb with rfl | rfl | rfl | hb
    · exact fS p (List.mem_append_right _ hp)
    · exact fR p (List.mem_append_right _ hp)
    · exact fN p (List.mem_append_right _ hp)
    · exact fo p hp b hb
  · intro p hp
    simp only [List.mem_cons, List.mem_append] at hp ⊢
    rcases hp with h | h | h | h <;> simp [h]
  · intro p hp
    simp only [List.mem_cons, List.mem_append]
    simp [hp]
theorem f15 (x : Int) : -2 ^ 62 ≤ x.fmod 15 ∧ x.fmod 15 < 2 ^ 62 := by
  have h1 := fmod_lo x (n := 15) (by decide)
  have h2 := fmod_hi x (n := 15) (by decide)
  omega
theorem perm7m {a b c d e f g : Addr × Obj} : ∀ p ∈ [c, g, f, b, d, e], p ∈ [a, b, c, d, e, f, g] := fun p hp => by
  simp only [List.mem_cons, List.not_mem_nil, or_false] at hp ⊢
  rcases hp with h | h | h | h | h | h <;> simp [h]
theorem onc_of {h₀ h : Heap} {L : Addr} {a b d e f : Addr × Obj} {nc : Addr} {onc : Obj} {xc : Option Value} (Nu : News h₀ L h [a, b, (nc, onc), d, e, f]) (hon : onc.data = .cell xc) : ∃ x, onc.data = .cell x := ⟨_, hon⟩
theorem len15 {l : Nat} {x : Int} (h : l ≤ (x.fmod 15 - 0).toNat) : l ≤ 15 := by
  have := fmod_hi x (n := 15) (by decide)
  omega
theorem f3 (x : Int) : 0 ≤ x.fmod 3 ∧ x.fmod 3 < 3 := ⟨fmod_lo x (by decide), fmod_hi x (by decide)⟩
theorem smalls_take {os : List Op} (h : ∀ o ∈ os, o.small) (k : Nat) : ∀ o ∈ os.take k, o.small := fun o ho => h o (List.mem_of_mem_take ho)
theorem smalls_append {os os' : List Op} (h : ∀ o ∈ os, o.small) (h' : ∀ o ∈ os', o.small) : ∀ o ∈ os ++ os', o.small := fun o ho => (List.mem_append.mp ho).elim (h o) (h' o)
theorem smalls_one {o : Op} (h : o.small) : ∀ p ∈ [o], p.small := fun p hp => by rw [List.mem_singleton.mp hp]; exact h
theorem smalls_set {os : List Op} {o : Op} (h : ∀ o ∈ os, o.small) (ho : o.small) (k : Nat) : ∀ p ∈ os.set k o, p.small := fun p hp => (List.mem_or_eq_of_mem_set hp).elim (h p) fun e => e ▸ ho
theorem smalls_getD {os : List Op} (h : ∀ o ∈ os, o.small) (j : Nat) : (os.getD j (.lit 0)).small := by
  rw [List.getD_eq_getElem?_getD]
  cases e : os[j]? with
  | none => exact ⟨by decide, by decide⟩
  | some p => exact h p (List.mem_of_getElem? e)
theorem OpsIn.getD {w : World} {news : List (Addr × Obj)} {vs : List Value} {os : List Op} (h : OpsIn w news vs os) {j : Nat} (hj : j < vs.length) : OpIn w news (vs.getD j .none) (os.getD j (.lit 0)) := by
  obtain ⟨o, h1, h2⟩ := h.get j hj
  have e : os.getD j (.lit 0) = o := by rw [List.getD_eq_getElem?_getD, h1]; rfl
  rw [e]
  exact h2
theorem idx_eq {x : Int} {l : Nat} : (-x - 1 + (l : Int)).toNat = ((l : Int) - 1 - x).toNat := by
  congr 1
  omega
theorem idx_last {l : Nat} : (-1 + (l : Int)).toNat = l - 1 := by omega
theorem idx_next {x : Int} {l : Nat} (h : x < (l : Int)) : ((l : Int) - 1 - x + 1).toNat = ((l : Int) - 1 - x).toNat + 1 := by omega
theorem swap_list {α : Type} {d : α} {vs : List α} {a : Nat} (ha : a + 1 < vs.length) :
    vs.take a ++ [vs.getD (vs.length - 1) d] ++ (vs.drop (a + 1)).take (vs.length - 1 - (a + 1)) ++ [vs.getD a d] = (vs.set (vs.length - 1) (vs.getD a d)).set a (vs.getD (vs.length - 1) d) := by
  apply List.ext_getElem
  · simp
    omega
  · intro j h1 h2
    simp only [List.length_set] at h2
    simp only [List.getElem_append, List.length_append, List.length_take, List.length_cons, List.length_nil, List.length_drop, List.getElem_take, List.getElem_drop, List.getElem_cons, List.getElem_set]
    repeat' split
    all_goals first | omega | rfl | skip
    all_goals (congr 1; omega)
theorem poke_list {α : Type} {v : α} {vs : List α} {a : Nat} (ha : a < vs.length) : vs.take a ++ [v] ++ vs.drop (a + 1) = vs.set a v := by
  rw [List.set_eq_take_append_cons_drop, if_pos ha]
  simp
-- <mac>
local macro_rules | `(tactic| walk_at "lawoff") => `(tactic| (intro z hz; (simp only [lawNames, List.mem_cons, List.not_mem_nil, or_false, not_or] at hz); obtain ⟨a1, a2, a3, a4, a5, a6, a7⟩ := hz; (by_cases g1 : z = PySem.Str.ofString "model"); (case pos => (subst g1; exact (by assumption : _ = some _).symm)); (by_cases g2 : z = PySem.Str.ofString "script"); (case pos => (subst g2; exact (by assumption : _ = some _).symm)); simp only [if_neg a1, if_neg a2, if_neg a3, if_neg a4, if_neg a5, if_neg a6, if_neg a7, if_neg g1, if_neg g2]))
-- </mac>
end
local macro_rules | `(tactic| walk_at "lawoff") => `(tactic| (intro z hz; (simp only [lawNames, List.mem_cons, List.not_mem_nil, or_false, not_or] at hz); obtain ⟨a1, a2, a3, a4, a5, a6, a7⟩ := hz; (by_cases g1 : z = PySem.Str.ofString "model"); (case pos => (subst g1; exact (by assumption : _ = some _).symm)); (by_cases g2 : z = PySem.Str.ofString "script"); (case pos => (subst g2; exact (by assumption : _ = some _).symm)); simp only [if_neg a1, if_neg a2, if_neg a3, if_neg a4, if_neg a5, if_neg a6, if_neg a7, if_neg g1, if_neg g2]))
local macro_rules | `(tactic| walk_at "zz") => `(tactic| skip)
local macro_rules | `(tactic| walk_at "zz") => `(tactic| skip)
theorem filled_LN : ∀ (w : World) (h : Heap), (hd.heap_39 w.params).In h → PySem.Challenge.rw_bq0029_01.wellSaid = true → True := by
  k_fill
  w_top off
  intros; trivial
section
theorem Names.strs {vs : List Value} {ns : List Str} (h : Names vs ns) : StrsAre vs ns := by
  induction h with
  | nil => exact .nil
  | cons _ ih => exact .cons _ _ ih
theorem Names.drop {vs : List Value} {ns : List Str} (h : Names vs ns) : ∀ k, Names (vs.drop k) (ns.drop k) := by
  induction h with
  | nil => intro k; simpa using Names.nil
  | cons r ih =>
    intro k
    cases k with
    | zero => exact .cons r
    | succ k => exact ih k
theorem names_of {k : Int} {t0 t1 t2 : Tok} (h : 0 ≤ k ∧ k < 3) : ∃ ns : List Str, Names (List.drop k.toNat [Value.str (Str.ofString "%x") t0, Value.str (Str.ofString "%y") t1, Value.str (Str.ofString "%z") t2]) ns ∧ ns.length ≤ 3 ∧ 0 < ns.length ∧ ∀ c ∈ ns, c = Str.ofString "%x" ∨ c = Str.ofString "%y" ∨ c = Str.ofString "%z" := by
  refine ⟨[Str.ofString "%x", Str.ofString "%y", Str.ofString "%z"].drop k.toNat, Names.drop (.cons (.cons (.cons .nil))) _, ?_, ?_, fun c hc => ?_⟩
  · simp only [List.length_drop, List.length_cons, List.length_nil]; omega
  · simp only [List.length_drop, List.length_cons, List.length_nil]; omega
  · have := List.mem_of_mem_drop hc
    simpa using this
theorem any_hit {ns : List Str} {x : Str} : (ns.any (· == x)) = hit ns (.var x) := by
  show _ = ns.contains x
  rw [List.contains_eq_any_beq]
  congr 1
  funext p
  exact Bool.eq_iff_iff.mpr ⟨fun h => by rw [beq_iff_eq] at h ⊢; exact h.symm, fun h => by rw [beq_iff_eq] at h ⊢; exact h.symm⟩
theorem hit_not {ns : List Str} {o : Op} (h : o.isVar = false) : hit ns o = false := by
  cases o with
  | var x => cases h
  | lit i => rfl
  | lab x => rfl
section
variable {prog : Program} {w : World} {A : Around} {E : Value → Shared → Prop} {s : Shared} {h₀ : Heap} {L : Addr} {news : List (Addr × Obj)}
theorem val_in {o : Op} {t : Tok} {NM : Addr} {nvs : List Value} {n2 : Nat} {ns : List Str} {Q : Value → Shared → Prop} (ho : o.isVar = true) (N : News h₀ L s.heap news) (hm : (NM, listOf nvs.toArray n2) ∈ news) (hs : StrsAre nvs ns) (h : Q (.bool (hit ns o)) s) :
    wpAny (model prog w) A (compareOp .In (o.val t) (.ref NM)) Q E s := by
  cases o with
  | lit i => cases ho
  | lab x => cases ho
  | var x => exact in_list_strs (PySem.IsL.isList (n := n2) (N _ hm).1) hs (by rw [any_hit]; exact h)
end
abbrev intsOf (l : List Nat) : List Int := l.map fun (j : Nat) => (j : Int)
theorem ints_yes {ys : List Value} {l : List Nat} {i : Nat} {t : Tok} (h : IntsAre ys (intsOf l)) : IntsAre (ys ++ [.int (i : Int) t]) (intsOf (l ++ [i])) := by
  rw [intsOf, List.map_append]
  exact h.append (.cons _ _ .nil)
/-- nothing but the heap and the marks was changed -/
def Rest (h₀ : Heap) (L : Addr) (m : Str → Option Value) (news : List (Addr × Obj)) (s : Shared) (f : Flow) (s' : Shared) : Prop :=
  f = .next ∧ ∃ h' tk', s' = { s with heap := h', toks := tk' } ∧ Fr h₀ L h' m ∧ News h₀ L h' news
theorem Rest.intro {h₀ h' : Heap} {L : Addr} {m : Str → Option Value} {news : List (Addr × Obj)} {s : Shared} {tk' : Nat} (F : Fr h₀ L h' m) (N : News h₀ L h' news) : Rest h₀ L m news s .next { s with heap := h', toks := tk' } := ⟨rfl, h', tk', rfl, F, N⟩
theorem rest_mono {prog : Program} {w : World} {A : Around} {E : Value → Shared → Prop} {s : Shared} {h₀ : Heap} {L : Addr} {m : Str → Option Value} {news : List (Addr × Obj)} {t : Sem Flow} {Q : Flow → Shared → Prop} (Fu : Fr h₀ L s.heap m) (Nu : News h₀ L s.heap news)
    (h1 : ∀ E' : Value → Shared → Prop, wpAny (model prog w) A t (Rest h₀ L m news s) E' s) (h2 : ∀ h' tk', Fr h₀ L h' m → News h₀ L h' news → Q .next { s with heap := h', toks := tk' }) : wpAny (model prog w) A t Q E s := by
  refine wpAny_mono (h1 E) (fun f s' hr => ?_) fun _ _ e => e
  obtain ⟨rfl, h', tk', rfl, F, N⟩ := hr
  exact h2 h' tk' F N
theorem ints_one {ys : List Value} {x : Int} (h : IntsAre ys [x]) : ∃ t, ys = [.int x t] := by
  cases h with
  | cons _ t h' => cases h'; exact ⟨t, rfl⟩
theorem ints_two {ys : List Value} {x y : Int} {r : List Int} (h : IntsAre ys (x :: y :: r)) : ∃ t u yr, ys = .int x t :: .int y u :: yr := by
  cases h with
  | cons _ t h' =>
    cases h' with
    | cons _ u h'' => exact ⟨t, u, _, rfl⟩
theorem hits_len {ns : List Str} {os : List Op} {i : Nat} : (hitsTo ns os i).length ≤ i := by
  have := List.length_filter_le (fun j => (os.reverse[j]?).any (hit ns)) (List.range i)
  rw [List.length_range] at this
  exact this
theorem len_two {a b : Value} {r : List Value} : ¬ (((a :: b :: r).length : Int) = 1) := by
  simp only [List.length_cons]
  omega
-- <mac>
local macro_rules | `(tactic| walk_at "compareOp In") => `(tactic| (k_here; (with_reducible show wpAny _ _ (compareOp CmpOp.In (Op.val _ _) (Value.ref _)) _ _ _); k_dflt (refine' val_in ?o ?N ?m ?s ?_; (case o => assumption); (case N => k_asm); (case m => k_mem); (case s => assumption))))
local macro_rules | `(tactic| walk_at "subscriptTail") => `(tactic| (k_here; (with_reducible show wpAny _ _ (subscriptTail (PySem.Expr.List _ _) _ _ _) _ _ _); refine held ?_))
local macro_rules | `(tactic| walk_at "subscriptTail Name Slice ref ref") => `(tactic| (k_here; (with_reducible show wpAny _ _ (subscriptTail (PySem.Expr.List _ _) _ _ _) _ _ _); refine held ?_))
local macro_rules | `(tactic| walk_at "exec Assign cons ListComp") => `(tactic| (refine held ?_))
local macro_rules | `(tactic| walk_at "CompSrcT") => `(tactic| (refine held ?_))
local macro_rules | `(tactic| walk_at "exec If") => `(tactic| (k_here; (with_reducible show wpAny _ _ (exec (PySem.Stmt.If (PySem.Expr.Compare (PySem.Expr.Call (PySem.Expr.Name (PySem.Str.ofString "_law_phi") _) _ _ _) _ _ _) _ _ _) _) _ _ _); refine held ?_))
local macro_rules | `(tactic| walk_at "exec If") => `(tactic| (k_here; (with_reducible show wpAny _ _ (exec (PySem.Stmt.If (PySem.Expr.BoolOp _ (PySem.Expr.Compare (PySem.Expr.Name (PySem.Str.ofString "kept") _) _ _ _ :: _) _) _ _ _) _) _ _ _); refine held ?_))
-- </mac>
end
local macro_rules | `(tactic| walk_at "compareOp In") => `(tactic| (k_here; (with_reducible show wpAny _ _ (compareOp CmpOp.In (Op.val _ _) (Value.ref _)) _ _ _); k_dflt (refine' val_in ?o ?N ?m ?s ?_; (case o => assumption); (case N => k_asm); (case m => k_mem); (case s => assumption))))
local macro_rules | `(tactic| walk_at "subscriptTail") => `(tactic| (k_here; (with_reducible show wpAny _ _ (subscriptTail (PySem.Expr.List _ _) _ _ _) _ _ _); refine held ?_))
local macro_rules | `(tactic| walk_at "subscriptTail Name Slice ref ref") => `(tactic| (k_here; (with_reducible show wpAny _ _ (subscriptTail (PySem.Expr.List _ _) _ _ _) _ _ _); refine held ?_))
local macro_rules | `(tactic| walk_at "exec Assign cons ListComp") => `(tactic| (refine held ?_))
local macro_rules | `(tactic| walk_at "CompSrcT") => `(tactic| (refine held ?_))
local macro_rules | `(tactic| walk_at "exec If") => `(tactic| (k_here; (with_reducible show wpAny _ _ (exec (PySem.Stmt.If (PySem.Expr.Compare (PySem.Expr.Call (PySem.Expr.Name (PySem.Str.ofString "_law_phi") _) _ _ _) _ _ _) _ _ _) _) _ _ _); refine held ?_))
local macro_rules | `(tactic| walk_at "exec If") => `(tactic| (k_here; (with_reducible show wpAny _ _ (exec (PySem.Stmt.If (PySem.Expr.BoolOp _ (PySem.Expr.Compare (PySem.Expr.Name (PySem.Str.ofString "kept") _) _ _ _ :: _) _) _ _ _) _) _ _ _); refine held ?_))
local macro_rules | `(tactic| walk_at "zz") => `(tactic| skip)
local macro_rules | `(tactic| walk_at "zz") => `(tactic| skip)
local macro_rules | `(tactic| walk_at "zz") => `(tactic| skip)
local macro_rules | `(tactic| walk_at "zz") => `(tactic| skip)
local macro_rules | `(tactic| walk_at "zz") => `(tactic| skip)
local macro_rules | `(tactic| walk_at "zz") => `(tactic| skip)
local macro_rules | `(tactic| walk_at "zz") => `(tactic| skip)
local macro_rules | `(tactic| walk_at "zz") => `(tactic| skip)
theorem filled_LW : ∀ (w : World) (h : Heap), (hd.heap_39 w.params).In h → PySem.Challenge.rw_bq0029_01.wellSaid = true → True := by
  k_fill
  w_top off
  intros; trivial
section
local macro_rules | `(tactic| walk_at "binaryOp Add ref ref") => `(tactic| (k_here; (with_reducible show wpAny _ _ (binaryOp _ (Value.ref _) (Value.ref _)) _ _ _); k_dflt (refine' ladd ?k1 ?k2 ?k3 ?k3b ?k4 ?k4b ?_; (case k1 => k_asm); (case k2 => k_asm); (case k3 => k_mem); (case k3b => k_mem); (case k4 => walk_at "len_ok"); (case k4b => walk_at "len_ok")); intro D' h' F' N' l1; (try k_lt l1); (try k_sweep)))
local macro_rules | `(tactic| walk_at "eval Call") => `(tactic| (k_here; (with_reducible show wpAny _ _ (PySem.eval (PySem.Expr.Call (PySem.Expr.Name _ _) _ _ _) _) _ _ _); k_dflt (refine Call_ ?_)))
local macro_rules | `(tactic| walk_at "call ref") => `(tactic| (k_here; (with_reducible show wpAny _ _ (call (Value.ref 265) [Value.ref _, Value.int _ _]) _ _ _); k_dflt (refine' num_spec ?C ?k ?dp ?un ?l ?i ?z ?a ?_; (case C => walk_at "cx"); (case k => exact rfl); (case dp => walk_at "room"); (case un => walk_at "room"); (case l => with_reducible assumption); (case i => with_reducible assumption); (case z => omega); (case a => omega)); intro r' t' h' tk' F' N'; (try k_sweep)))
local macro_rules | `(tactic| walk_at "call ref") => `(tactic| (k_here; (with_reducible show wpAny _ _ (call (Value.ref 272) _) _ _ _); refine held ?_))
local macro_rules | `(tactic| walk_at "call ref") => `(tactic| (k_here; (with_reducible show wpAny _ _ (call (Value.ref 194) _) _ _ _); refine held ?_))
local macro_rules | `(tactic| walk_at "call ref") => `(tactic| (k_here; (with_reducible show wpAny _ _ (call (Value.ref 202) _) _ _ _); refine held ?_))
local macro_rules | `(tactic| walk_at "call ref") => `(tactic| (k_here; (with_reducible show wpAny _ _ (call (Value.ref 230) _) _ _ _); refine held ?_))
local macro_rules | `(tactic| walk_at "call ref") => `(tactic| (k_here; (with_reducible show wpAny _ _ (call (Value.ref 237) _) _ _ _); refine held ?_))
local macro_rules | `(tactic| walk_at "call ref") => `(tactic| (k_here; (with_reducible show wpAny _ _ (call (Value.ref 244) _) _ _ _); refine held ?_))
local macro_rules | `(tactic| walk_at "call ref") => `(tactic| (k_here; (with_reducible show wpAny _ _ (call (Value.ref 179) _) _ _ _); refine held ?_))
local macro_rules | `(tactic| walk_at "call ref") => `(tactic| (k_here; (with_reducible show wpAny _ _ (call (Value.ref 277) _) _ _ _); refine held ?_))
local macro_rules | `(tactic| walk_at "call ref") => `(tactic| (k_here; (with_reducible show wpAny _ _ (call (Value.ref 301) _) _ _ _); refine held ?_))
local macro_rules | `(tactic| walk_at "call ref") => `(tactic| (k_here; (with_reducible show wpAny _ _ (call (Value.ref 296) _) _ _ _); refine held ?_))
local macro_rules | `(tactic| walk_at "call ref") => `(tactic| (k_here; (with_reducible show wpAny _ _ (call (Value.ref 209) _) _ _ _); refine held ?_))
local macro_rules | `(tactic| walk_at "call ref") => `(tactic| (k_here; (with_reducible show wpAny _ _ (call (Value.ref 282) _) _ _ _); refine held ?_))
local macro_rules | `(tactic| walk_at "exec If") => `(tactic| (k_here; (with_reducible show wpAny _ _ (exec (PySem.Stmt.If (PySem.Expr.Compare (PySem.Expr.Name (PySem.Str.ofString "kind") _) [PySem.CmpOp.Eq] [PySem.Expr.Constant (PySem.Const.int 3) _ _] _) _ _ _) _) _ _ _); refine held ?_))
local macro_rules | `(tactic| walk_at "subscriptTail Name Constant ref int") => `(tactic| (k_here; (with_reducible show wpAny _ _ (subscriptTail (PySem.Expr.Name (PySem.Str.ofString "kept") _) _ (Value.ref _) (Value.int _ _)) _ _ _); k_dflt (refine' item_tupleT ?t ?a ?b ?c ?d ?_; (case t => exact News.isTup (by k_asm) (by k_mem)); (case a => decide); (case b => decide); (case c => rfl); (case d => rfl); k_whole)))
set_option maxHeartbeats 100000000 in
theorem law_holds : PySem.Challenge.rw_bq0029_01.Holds := hd (by
  k_go0
  all_goals try k_fold
  (rename Top _ _ _ _ _ _ => kTp)
  have kT0 : Top hd.view_39 LZ _ _ _ (Top.heap kTp) := kTp
  (rename Heap.IsList _ _ _ => kIs0)
  have kIs1 : Heap.IsList (Top.heap kTp) _ _ := kIs0
  (rename IntsAre _ _ => hI0)
  have hI0l := z63 hI0 (by omega)
  k_steps
  (rename Fr _ _ _ _ => kFr)
  (rename News _ _ _ _ => kNw)
  (rename IsRange _ _ _ _ _ _ _ _ => kRg)
  (rename Below callerA _ _ _ => kBw)
  (rename _ = Data.cell (some (Value.ref _)) => kRow)
  (rename (hd.heap_39 _).In (Top.heap kTp) => kX0)
  have kN2 := perm7 kNw
  have hJ0 := fun (m₀ : Str → Option Value) (hk : m₀ (Str.ofString "kept") = some .none) hRS hrn => lj_start (m₀ := m₀) kN2 kRow (by assumption) hk hRS hrn
  have hne3 := three_ne kN2 kRow (by assumption)
  have hon0 := onc_of kN2 (by assumption)
  k_dflt show wpAny _ (ktrTop 302 7 (some []) _ _ _ _ _ _ []) _ _ _ _
  k_dflt (refine' law_loop2 (by rfl) kRg (small_one (by decide) (by decide) ?hb1 ?hb2) (rangeSize_nat _ _) kFr kNw ?hn (hJ0 _ (by rfl) ?hRS ?hrn) (by rfl) (by rfl) ?turn ?done)
  case hb1 => exact (f15 _).1
  case hb2 => exact (f15 _).2
  case hn => exact perm7m
  case hRS => k_ne
  case hrn => exact (Nat.succ_ne_self _).symm
  case done =>
    intro m₁ nx h tk hJ F₁ N₁
    obtain ⟨hm, vs, os, n, n2, R, oc, rest, kv, rfl, hcell, hS, hR, hN, hMA, hRl, hos, hsm, hlen, hkept, hKO⟩ := hJ
    have hM := (hm _ not_model).trans (by rfl : _ = some (Value.ref _))
    have hSA := (hm _ not_script).trans (by rfl : _ = some (Value.ref _))
    clear hm
    rw [turn_map (m₀ := m₁) (fun _ _ => rfl) rfl hkept rfl rfl rfl rfl rfl hM hSA] at F₁
    obtain ⟨xc, hon⟩ := hon0
    clear hJ0 kN2 kNw kFr kRg kRow hM hSA
    revert F₁ N₁
    repeat ((rename Fr _ _ _ _ => z); clear z)
    repeat ((rename News _ _ _ _ => z); clear z)
    (rename Below _ _ _ _ => z; clear z)
    (rename CellsAre _ _ _ => z; clear z)
    intro F₁ N₁
    (rename Fr _ _ _ _ => kF0)
    (rename News _ _ _ _ => kN0)
    have hMA2 := hMA
    obtain ⟨hi0, td, hdd⟩ := hMA2
    have hb15 := len15 hlen
    have hb8 : vs.length ≤ 100 := by omega
    have hneA : @Ne Nat _ _ := hne3.1
    have hneB : @Ne Nat _ _ := hne3.2
    k_dflt show wpAny _ (ktrTop 302 7 (some []) _ _ _ _ _ _ []) _ _ _ _
    k_steps
    unfold Held
    try clear kF0
    try clear kN0
    (rename Fr _ _ _ _ => kF1)
    (rename News _ _ _ _ => kN1)
    k_dflt (refine kba_turn (value' := PySem.Expr.Name (PySem.Str.ofString "_") ⟨0, 0, 0, 0⟩) (fun _ => rfl) ?_)
    k_dflt (refine' lslice kF1 kN1 ?m (IsPart.int _ _) IsPart.none (pick_from ?h0) ?hz ?_ ?s ?t)
    case m => k_mem
    case h0 => exact (f3 _).1
    case hz => exact Nat.le_of_ble_eq_true rfl
    case s => with_unfolding_all rfl
    case t => intro _; with_unfolding_all rfl
    intro NM h3 F3 N3 hltN
    k_lt hltN
    obtain ⟨ns, hns, hnz, hn0, hn3⟩ := names_of (f3 _)
    generalize hnv : List.drop _ _ = nvs at hns N3
    clear hnv
    have hstr := hns.strs
    clear kF1 kN1
    k_steps
    have hol := hos.length
    (rename Fr _ _ _ _ => kFr)
    unfold Held
    k_dflt (refine LCt.Assign_ListComp_T (F₀ := kFr) (by rfl) (by with_unfolding_all rfl) (by with_unfolding_all rfl) (by decide) (by rfl) (by decide) (by rfl) (by rfl) (by rfl) ?_)
    k_steps
    try clear kFr
    (rename Fr _ _ _ _ => kFr)
    (rename News _ _ _ _ => kNw)
    (rename IsRange _ _ _ _ _ _ _ _ => kRg)
    unfold Held
    k_dflt (refine LCt.CompSrcT.range (by rfl) kFr kNw kRg (small_one (by decide) (by decide) (by omega) (by omega)) (rangeSize_nat _ _) (by rw [sizeLine_eq]; omega) ?_)
    intro g1
    refine comp_restT (fun i ys => IntsAre ys (intsOf (hitsTo ns os i))) .nil ?_ ?_
    · intro i u ys I oI C oC D m₂ h tk E' hi' hP hZ hC hx F₁ N₁ off ne
      obtain ⟨tv, rfl⟩ := hP
      try clear kFr
      try clear kNw
      obtain ⟨o1, ho1, hv1⟩ := hos.rev_get (i := i) (by omega)
      rw [show vs.length - 1 - i = ((vs.length : Int) - 1 - (0 + (i : Int))).toNat by omega] at hv1
      k_steps
      · refine LCg.CompEnd.intro (by assumption) (by assumption) _ (fun _ hp => hp) off trivial ⟨rfl, ?_⟩
        rw [hitsTo_yes ho1 (by assumption), Int.zero_add]
        exact ints_yes hZ
      · refine LCg.CompEnd.intro (by assumption) (by assumption) _ (fun _ hp => hp) off trivial ⟨rfl, ?_⟩
        rw [hitsTo_no ho1 (by assumption)]
        exact hZ
      · refine LCg.CompEnd.intro (by assumption) (by assumption) _ (fun _ hp => hp) off trivial ⟨rfl, ?_⟩
        rw [hitsTo_no ho1 (hit_not (by assumption))]
        exact hZ
    · intro ys hZ
      intro D1 h1 tk1 F₁ N₁ off1
      try clear kFr
      try clear kNw
      replace hZ : IntsAre ys (intsOf (hitsTo ns os (((vs.length : Int) - 0).toNat))) := hZ
      rw [show ((vs.length : Int) - 0).toNat = os.length by omega] at hZ
      clear kRg
      revert F₁ N₁
      repeat ((rename Fr _ _ _ _ => z); clear z)
      repeat ((rename News _ _ _ _ => z); clear z)
      intro F₁ N₁
      (rename _ = Data.cell (some (Value.ref NM)) => hnm)
      k_dflt show wpAny _ (ktrTop 302 7 (some []) _ _ _ _ _ _ []) _ _ _ _
      k_steps
      unfold Held
      k_dflt (refine rest_mono F₁ N₁ ?phi ?cont)
      case phi =>
        intro E'
        clear qk ek
        k_dflt (refine wpAny_If ?_)
        generalize hhs : hitsTo ns os os.length = hs at hZ
        rcases hs with _ | ⟨j, _ | ⟨j2, r⟩⟩
        · simp only [intsOf, List.map] at hZ
          cases hZ
          k_steps
          unfold Held
          (rename Fr _ _ _ _ => kF1)
          (rename News _ _ _ _ => kN1)
          k_dflt (refine' phi_spec (Cx.mk kBw kF1 kX0 kN1 kT0) rfl (hMA.mono fun p hp => ?sub) ?dp ?un rfl hb8 ?S (hos.mono fun p hp => ?sub2) hsm ?NM hns hnz hn0 hn3 ?r0 ?r1 ?r2)
          case sub => k_mem
          case sub2 => k_mem
          case dp => omega
          case un => omega
          case S => k_mem
          case NM => k_mem
          case r1 => intro j3 t3 h2 tk2 hx; rw [hhs] at hx; cases hx
          case r2 => intro t3 h2 tk2 hx; rw [hhs] at hx; simp at hx
          case r0 =>
            clear kF1 kN1
            intro h2 tk2 hx F2 N2
            k_steps
            (rename Fr _ _ _ _ => kF9)
            (rename News _ _ _ _ => kN9)
            exact Rest.intro kF9 fun p hp => kN9 p (by k_mem)
        · simp only [intsOf, List.map] at hZ
          obtain ⟨ty, rfl⟩ := ints_one hZ
          k_steps
          unfold Held
          (rename Fr _ _ _ _ => kF1)
          (rename News _ _ _ _ => kN1)
          k_dflt (refine' phi_spec (Cx.mk kBw kF1 kX0 kN1 kT0) rfl (hMA.mono fun p hp => ?sub) ?dp ?un rfl hb8 ?S (hos.mono fun p hp => ?sub2) hsm ?NM hns hnz hn0 hn3 ?r0 ?r1 ?r2)
          case sub => k_mem
          case sub2 => k_mem
          case dp => omega
          case un => omega
          case S => k_mem
          case NM => k_mem
          case r0 => intro h2 tk2 hx; rw [hhs] at hx; cases hx
          case r2 => intro t3 h2 tk2 hx; rw [hhs] at hx; simp at hx
          case r1 =>
            clear kF1 kN1
            intro j3 t3 h2 tk2 hx F2 N2
            rw [hhs] at hx
            cases hx
            k_steps
            · (rename decide _ = true => hq); simp at hq
            · (rename _ ≠ _ => hq); exact absurd rfl hq
            · (rename Fr _ _ _ _ => kF9)
              (rename News _ _ _ _ => kN9)
              exact Rest.intro kF9 fun p hp => kN9 p (by k_mem)
            · (rename _ ≠ _ => hq); exact absurd rfl hq
        · simp only [intsOf, List.map] at hZ
          obtain ⟨t0, u0, yr, rfl⟩ := ints_two hZ
          have hyl : yr.length ≤ 900 := by
            have h1 := hZ.length
            have h2 := hits_len (ns := ns) (os := os) (i := os.length)
            rw [hhs] at h2
            simp only [List.length_cons, List.length_map] at h1 h2
            omega
          k_steps
          unfold Held
          (rename Fr _ _ _ _ => kF1)
          (rename News _ _ _ _ => kN1)
          k_dflt (refine' phi_spec (Cx.mk kBw kF1 kX0 kN1 kT0) rfl (hMA.mono fun p hp => ?sub) ?dp ?un rfl hb8 ?S (hos.mono fun p hp => ?sub2) hsm ?NM hns hnz hn0 hn3 ?r0 ?r1 ?r2)
          case sub => k_mem
          case sub2 => k_mem
          case dp => omega
          case un => omega
          case S => k_mem
          case NM => k_mem
          case r0 => intro h2 tk2 hx; rw [hhs] at hx; cases hx
          case r1 => intro j3 t3 h2 tk2 hx; rw [hhs] at hx; cases hx
          case r2 =>
            clear kF1 kN1
            intro t3 h2 tk2 hx F2 N2
            k_steps
            · (rename decide _ = true => hq); simp at hq
            · (rename _ = (1 : Int) => hq); exact absurd hq len_two
            · (rename Fr _ _ _ _ => kF9)
              (rename News _ _ _ _ => kN9)
              exact Rest.intro kF9 fun p hp => kN9 p (by k_mem)
      case cont =>
        clear F₁ N₁
        intro h2 tk2 F₁ N₁
        k_dflt show wpAny _ (ktrTop 302 7 (some []) _ _ _ _ _ _ []) _ _ _ _
        k_steps
        unfold Held
        k_dflt (refine rest_mono F₁ N₁ ?kep ?fin)
        case kep =>
          intro E'
          clear qk ek
          k_dflt (refine wpAny_If ?_)
          cases hKO with
          | none =>
            k_steps
            (rename Fr _ _ _ _ => kF9)
            (rename News _ _ _ _ => kN9)
            exact Rest.intro kF9 kN9
          | some hK hMK hSK hRK hoK hsK hlK =>
            have hMK2 := hMK
            obtain ⟨hi9, td9, hdd9⟩ := hMK2
            k_steps
            unfold Held
            (rename Fr _ _ _ _ => kF1)
            (rename News _ _ _ _ => kN1)
            k_dflt (refine' same_spec (Cx.mk kBw kF1 kX0 kN1 kT0) rfl (hMK.mono fun p hp => ?sub) ?dp ?un (Nat.le_trans hlK ?sz) ?hS ?hR (hoK.mono fun p hp => ?sub2) hsK ?_)
            case sub => k_mem
            case sub2 => k_mem
            case dp => omega
            case un => omega
            case sz => decide
            case hS => k_mem
            case hR => k_mem
            clear kF1 kN1
            intro h5 tk5 F5 N5
            k_steps
            (rename Fr _ _ _ _ => kF9)
            (rename News _ _ _ _ => kN9)
            exact Rest.intro kF9 kN9
        case fin =>
          clear F₁ N₁
          intro h2 tk2 F₁ N₁
          k_dflt show wpAny _ (ktrTop 302 7 (some []) _ _ _ _ _ _ []) _ _ _ _
          k_steps
          unfold Held
          (rename Fr _ _ _ _ => kF1)
          (rename News _ _ _ _ => kN1)
          k_dflt (refine' refused_spec (Cx.mk kBw kF1 kX0 kN1 kT0) rfl (hMA.mono fun p hp => ?sub) ?dp ?un (fmod_lo _ ?z) (fmod_hi _ ?z) ?_)
          case sub => k_mem
          case dp => omega
          case un => omega
          case z => decide
          clear kF1 kN1
          intro h5 tk5 F5 N5
          k_steps
          unfold Held
          (rename Fr _ _ _ _ => kF1)
          (rename News _ _ _ _ => kN1)
          k_dflt (refine' same_spec (Cx.mk kBw kF1 kX0 kN1 kT0) rfl (hMA.mono fun p hp => ?sub) ?dp ?un hb8 ?hS ?hR (hos.mono fun p hp => ?sub2) hsm ?_)
          case sub => k_mem
          case sub2 => k_mem
          case dp => omega
          case un => omega
          case hS => k_mem
          case hR => k_mem
          clear kF1 kN1
          intro h6 tk6 F6 N6
          k_steps
  case turn =>
    intro m₂ Q' E' s' hmM hmS i t m₁ nx h tk own hi' hoff hJ F₁ N₁
    obtain ⟨hm, vs, os, n, n2, R, oc, rest, kv, rfl, hcell, hS, hR, hN, hMA, hRl, hos, hsm, hlen, hkept, hKO⟩ := hJ
    have F₂ := law_fr2 hm hkept hmM hmS F₁
    clear F₁ hkept hm
    simp only [List.cons_append] at N₁
    revert kBw kX0 kT0 kIs1 hI0 hI0l hne3 hmM hmS hi' hoff hcell hS hR hN hMA hRl hos hsm hlen hKO N₁ F₂
    repeat ((rename _ => z); first | clear z | revert z)
    intro w s₀ s₁ mg mb fa kTp cd ns SA vsA onc M D S r15 m₂ Q' E' s' i t m₁ h tk own vs os n n2 R oc rest kv hI0 kBw kT0 kIs1 hI0l kX0 hne3 hmM hmS hi' hoff N₁ hcell hS hR hN hMA hRl hos hsm hlen hKO F₂
    have hneA : @Ne Nat _ _ := hne3.1
    have hneB : @Ne Nat _ _ := hne3.2
    k_steps
    unfold Held
    (rename Fr _ _ _ _ => kFr)
    (rename News _ _ _ _ => kNw)
    k_dflt (refine' operand_spec (Cx.mk kBw kFr kX0 kNw kT0) rfl ?hdp ?hun ?_)
    case hdp => omega
    case hun => omega
    intro v o add h2 tk2 F3 N3 hadd hov hosm
    have LT0 := LT.start N3 hadd hS hR hN hoff hMA hRl hos hKO
    have hov4 := hov.mono (news' := add ++ rest) fun p hp => List.mem_append_left _ hp
    have hi5 : i < 15 := by
      have := fmod_hi r15 (n := 15) (by decide)
      omega
    try clear kFr kNw N₁ F₂
    clear N3 hadd hov hS hR hN hoff hMA hRl hos hKO
    generalize add ++ rest = r4 at LT0 hov4
    obtain ⟨N4, fS, fR, fN, fo, MA, RL, OS, KO⟩ := LT0
    have MA' := MA
    obtain ⟨hi0, td, hdd⟩ := MA'
    k_steps
    unfold Held
    have hdp0 := dep_le
    k_dflt (refine wpAny_mono (Q := Mid w m₂ (Top.heap kTp) s₁.heap.objs.size M D S (s₁.heap.objs.size + 1) (s₁.heap.objs.size + 1 + 1) onc v o i own s') ?mid ?chk (fun _ _ e => e))
    case chk =>
      intro f s2 hMid
      (rename Fr _ _ _ _ => zF)
      (rename News _ _ _ _ => zN)
      clear zF zN
      obtain ⟨rfl, h', tk', m', vs', os', n', n2', R', oc', r5, kv', rfl, F', hm', hnew, hkept, hoc', LT', hov', hsm', hl'⟩ := hMid
      rw [turn_map hm' rfl hkept rfl hnew rfl rfl rfl ((hm' _ not_model).trans hmM) ((hm' _ not_script).trans hmS)] at F'
      obtain ⟨N', fS', fR', fN', fo', MA', RL', OS', KO'⟩ := LT'
      clear hov4 fS fR fN fo MA RL OS KO hi0 hdd hsm hlen hcell
      (rename Fr _ _ _ _ => kF0)
      (rename News _ _ _ _ => kN0)
      have MA2 := MA'
      obtain ⟨hi0', td', hdd'⟩ := MA2
      have hb8 : vs'.length ≤ 100 := by omega
      have g1 : OpIn w ((S, listOf vs'.toArray n') :: (s₁.heap.objs.size + 1, oc') :: (s₁.heap.objs.size + 1 + 1, onc) :: (r5 ++ own)) v o := hov'.mono fun p hp => by k_mem
      have g2 : OpsIn w ((S, listOf vs'.toArray n') :: (s₁.heap.objs.size + 1, oc') :: (s₁.heap.objs.size + 1 + 1, onc) :: (r5 ++ own)) vs' os' := OS'.mono fun p hp => by k_mem
      have g3 : ModelAt w ((S, listOf vs'.toArray n') :: (s₁.heap.objs.size + 1, oc') :: (s₁.heap.objs.size + 1 + 1, onc) :: (r5 ++ own)) M D S := MA'.mono fun p hp => by k_mem
      k_dflt show wpAny _ _ _ _ _ _
      k_steps
      unfold Held
      k_dflt (refine' same_spec (Cx.mk kBw kF0 kX0 kN0 kT0) rfl g3 ?dp ?un hb8 ?hS ?hR g2 hsm' ?_)
      case dp => omega
      case un => omega
      case hS => k_mem
      case hR => exact List.mem_cons_of_mem _ (List.mem_cons_of_mem _ (List.mem_cons_of_mem _ (List.mem_append_left _ RL')))
      clear kF0 kN0
      intro h3 tk3 F3 N3
      k_steps
      unfold Held
      (rename Fr _ _ _ _ => kF4)
      (rename News _ _ _ _ => kN4)
      k_dflt (refine' get_depth_spec (Cx.mk kBw kF4 kX0 kN4 kT0) rfl g3 g1 ?dp ?un hb8 ?hS g2 ?r1 ?r2)
      case dp => omega
      case un => omega
      case hS => k_mem
      case r1 =>
        clear kF4 kN4
        intro j tj h5 tk5 hfj F5 N5
        k_steps
        unfold Held
        (rename Fr _ _ _ _ => kF6)
        (rename News _ _ _ _ => kN6)
        k_dflt (refine' found_spec (Cx.mk kBw kF6 kX0 kN6 kT0) rfl g1 ?dp ?un hb8 ?hR g2 ?q1 ?q2)
        case dp => omega
        case un => omega
        case hR => exact List.mem_cons_of_mem _ (List.mem_cons_of_mem _ (List.mem_cons_of_mem _ (List.mem_append_left _ RL')))
        case q2 => intro h7 tk7 hx F7 N7; rw [hfj] at hx; cases hx
        case q1 =>
          intro j2 tj2 h7 tk7 hx F7 N7
          rw [hfj] at hx
          obtain rfl := Option.some.inj hx
          clear kF6 kN6 F5 N5
          k_steps
          · exact absurd rfl (by assumption)
          · k_dflt exact chk_end F7 N7 hmM hmS hoc' fS' fR' fN' fo' MA' RL' OS' KO' hsm' hl'
      case r2 =>
        clear kF4 kN4
        intro h5 tk5 hfj F5 N5
        k_steps
        unfold Held
        (rename Fr _ _ _ _ => kF6)
        (rename News _ _ _ _ => kN6)
        k_dflt (refine' found_spec (Cx.mk kBw kF6 kX0 kN6 kT0) rfl g1 ?dp ?un hb8 ?hR g2 ?q1 ?q2)
        case dp => omega
        case un => omega
        case hR => exact List.mem_cons_of_mem _ (List.mem_cons_of_mem _ (List.mem_cons_of_mem _ (List.mem_append_left _ RL')))
        case q1 => intro j2 tj2 h7 tk7 hx F7 N7; rw [hfj] at hx; cases hx
        case q2 =>
          intro h7 tk7 hx F7 N7
          clear kF6 kN6 F5 N5
          k_steps
          k_dflt exact chk_end F7 N7 hmM hmS hoc' fS' fR' fN' fo' MA' RL' OS' KO' hsm' hl'
    case mid =>
      k_dflt (refine wpAny_If ?_)
      k_steps
      · unfold Held
        (rename Fr _ _ _ _ => kFr)
        (rename News _ _ _ _ => kNw)
        have N5 := news_tail kNw
        have hb8 : vs.length ≤ 100 := by omega
        (rename Int.fmod _ ((vs.length : Int) + 1) = 1 => hd1)
        have hb := dep_eq hd1
        k_dflt (refine' pop1_spec (Cx.mk kBw kFr kX0 N5 kT0) rfl ?M ?dp ?un ?sz ?h1 ?off ?_)
        case M => exact MA.mono fun p hp => by k_mem
        case dp => omega
        case un => omega
        case sz => omega
        case h1 => omega
        case off => exact off3 hne3.1 hne3.2 fS
        clear kNw N5 kFr
        intro n' h' tk' F' N'
        k_steps
        (rename Fr _ _ _ _ => kF)
        (rename News _ _ _ _ => kN)
        (rename _ = Data.cell (some (Value.ref _)) => kD)
        (rename _ < _ ∧ _ < _ ∧ _ < _ ∧ _ => kL)
        k_dflt (refine' Mid.row kF kN ?hn kD ?hm ?h1 ?h2 kL fS fR fN fo MA ?hv ?os KO hov4 ?sm ?hl)
        case hn => exact List.forall_mem_cons.mpr ⟨by k_mem, List.forall_mem_cons.mpr ⟨by k_mem, List.forall_mem_cons.mpr ⟨by k_mem, List.forall_mem_cons.mpr ⟨by k_mem, fun p hp => by k_mem⟩⟩⟩⟩
        case hm => walk_at "lawoff"
        case h1 => rfl
        case h2 => rfl
        case os => exact OS.take _
        case sm => exact smalls_take hsm _
        case hv => (rw [hd1]; congr 1; omega)
        case hl => (simp only [List.length_take]; omega)
      · unfold Held
        (rename Fr _ _ _ _ => kFr)
        (rename News _ _ _ _ => kNw)
        have N5 := news_tail kNw
        have hb8 : vs.length ≤ 100 := by omega
        (rename Int.fmod _ ((vs.length : Int) + 1) ≠ 1 => hd1)
        have hb := dep_ne hd1
        k_dflt (refine' pop_spec (Cx.mk kBw kFr kX0 N5 kT0) rfl ?M ?dp ?un ?sz ?h0 ?h1 ?off ?_)
        case M => exact MA.mono fun p hp => by k_mem
        case dp => omega
        case un => omega
        case sz => omega
        case h0 => exact (dep_le _ _).1
        case h1 => exact (dep_le _ _).2
        case off => exact off3 hne3.1 hne3.2 fS
        clear kNw N5 kFr
        intro n' h' tk' F' N'
        k_steps
        (rename Fr _ _ _ _ => kF)
        (rename News _ _ _ _ => kN)
        (rename _ = Data.cell (some (Value.ref _)) => kD)
        (rename _ < _ ∧ _ < _ ∧ _ < _ ∧ _ => kL)
        k_dflt (refine' Mid.row kF kN ?hn kD ?hm ?h1 ?h2 kL fS fR fN fo MA ?hv ?os KO hov4 ?sm ?hl)
        case hn => exact List.forall_mem_cons.mpr ⟨by k_mem, List.forall_mem_cons.mpr ⟨by k_mem, List.forall_mem_cons.mpr ⟨by k_mem, List.forall_mem_cons.mpr ⟨by k_mem, fun p hp => by k_mem⟩⟩⟩⟩
        case hm => walk_at "lawoff"
        case h1 => rfl
        case h2 => rfl
        case os => exact OS.take _
        case sm => exact smalls_take hsm _
        case hv => (congr 1; omega)
        case hl => (simp only [List.length_take]; omega)
      · unfold Held
        (rename Fr _ _ _ _ => kFr)
        (rename News _ _ _ _ => kNw)
        have N5 := news_tail kNw
        have hb8 : vs.length ≤ 100 := by omega
        k_dflt (refine' push_spec (Cx.mk kBw kFr kX0 N5 kT0) rfl ?M ?v ?dp ?un (Upd.head ?off) ?sz ?_)
        case M => exact MA.mono fun p hp => by k_mem
        case v => exact hov4.mono fun p hp => by k_mem
        case dp => omega
        case un => omega
        case off => exact off3 hne3.1 hne3.2 fS
        case sz => omega
        clear kNw N5 kFr
        intro h' tk' F' N'
        k_steps
        (rename Fr _ _ _ _ => kF)
        (rename News _ _ _ _ => kN)
        (rename _ = Data.cell (some (Value.ref _)) => kD)
        (rename _ < _ ∧ _ < _ ∧ _ < _ ∧ _ => kL)
        rw [List.push_toArray] at kN
        k_dflt (refine' Mid.row kF kN ?hn kD ?hm ?h1 ?h2 kL.2 fS fR fN fo MA ?hv ?os KO hov4 ?sm ?hl)
        case hn => exact List.forall_mem_cons.mpr ⟨by k_mem, List.forall_mem_cons.mpr ⟨by k_mem, List.forall_mem_cons.mpr ⟨by k_mem, List.forall_mem_cons.mpr ⟨by k_mem, fun p hp => by k_mem⟩⟩⟩⟩
        case hm => walk_at "lawoff"
        case h1 => rfl
        case h2 => rfl
        case os => exact OS.append (.cons hov4 .nil)
        case sm => exact smalls_append hsm (smalls_one hosm)
        case hv => rfl
        case hl => (simp only [List.length_append, List.length_cons, List.length_nil]; omega)
      · unfold Held
        (rename Fr _ _ _ _ => kFr)
        (rename News _ _ _ _ => kNw)
        have N5 := news_tail kNw
        have hb8 : vs.length ≤ 100 := by omega
        k_dflt (refine' push_spec (Cx.mk kBw kFr kX0 N5 kT0) rfl ?M ?v ?dp ?un (Upd.head ?off) ?sz ?_)
        case M => exact MA.mono fun p hp => by k_mem
        case v => exact hov4.mono fun p hp => by k_mem
        case dp => omega
        case un => omega
        case off => exact off3 hne3.1 hne3.2 fS
        case sz => omega
        clear kNw N5 kFr
        intro h' tk' F' N'
        k_steps
        (rename Fr _ _ _ _ => kF)
        (rename News _ _ _ _ => kN)
        (rename _ = Data.cell (some (Value.ref _)) => kD)
        (rename _ < _ ∧ _ < _ ∧ _ < _ ∧ _ => kL)
        rw [List.push_toArray] at kN
        k_dflt (refine' Mid.row kF kN ?hn kD ?hm ?h1 ?h2 kL.2 fS fR fN fo MA ?hv ?os KO hov4 ?sm ?hl)
        case hn => exact List.forall_mem_cons.mpr ⟨by k_mem, List.forall_mem_cons.mpr ⟨by k_mem, List.forall_mem_cons.mpr ⟨by k_mem, List.forall_mem_cons.mpr ⟨by k_mem, fun p hp => by k_mem⟩⟩⟩⟩
        case hm => walk_at "lawoff"
        case h1 => rfl
        case h2 => rfl
        case os => exact OS.append (.cons hov4 .nil)
        case sm => exact smalls_append hsm (smalls_one hosm)
        case hv => rfl
        case hl => (simp only [List.length_append, List.length_cons, List.length_nil]; omega)
      · unfold Held
        (rename Fr _ _ _ _ => kFr)
        (rename News _ _ _ _ => kNw)
        have N5 := news_tail kNw
        have hb8 : vs.length ≤ 100 := by omega
        (rename Int.fmod _ ((vs.length : Int) + 1) ≠ (vs.length : Int) => hd1)
        have hb := dep_lt hd1
        k_dflt (refine' dup_spec (Cx.mk kBw kFr kX0 N5 kT0) rfl ?M ?dp ?un ?sz ?h0 ?h1 (Upd.head ?off) ?_)
        case M => exact MA.mono fun p hp => by k_mem
        case dp => omega
        case un => omega
        case sz => omega
        case h0 => omega
        case h1 => omega
        case off => exact off3 hne3.1 hne3.2 fS
        clear kNw N5 kFr
        intro h' tk' F' N'
        k_steps
        (rename Fr _ _ _ _ => kF)
        (rename News _ _ _ _ => kN)
        (rename _ = Data.cell (some (Value.ref _)) => kD)
        (rename _ < _ ∧ _ < _ ∧ _ < _ ∧ _ => kL)
        rw [List.push_toArray, idx_eq] at kN
        k_dflt (refine' Mid.row kF kN ?hn kD ?hm ?h1 ?h2 kL.2 fS fR fN fo MA ?hv ?os KO hov4 ?sm ?hl)
        case hn => exact List.forall_mem_cons.mpr ⟨by k_mem, List.forall_mem_cons.mpr ⟨by k_mem, List.forall_mem_cons.mpr ⟨by k_mem, List.forall_mem_cons.mpr ⟨by k_mem, fun p hp => by k_mem⟩⟩⟩⟩
        case hm => walk_at "lawoff"
        case h1 => rfl
        case h2 => rfl
        case os => exact OS.append (.cons (OS.getD (by omega)) .nil)
        case sm => exact smalls_append hsm (smalls_one (smalls_getD hsm _))
        case hv => rfl
        case hl => (simp only [List.length_append, List.length_cons, List.length_nil]; omega)
      · unfold Held
        (rename Fr _ _ _ _ => kFr)
        (rename News _ _ _ _ => kNw)
        have N5 := news_tail kNw
        have hb8 : vs.length ≤ 100 := by omega
        (rename Int.fmod _ ((vs.length : Int) + 1) ≠ (vs.length : Int) => hd1)
        have hb := dep_lt hd1
        k_dflt (refine' swap_spec (Cx.mk kBw kFr kX0 N5 kT0) rfl ?M ?dp ?un ?sz ?h0 ?h1 ?off ?_)
        case M => exact MA.mono fun p hp => by k_mem
        case dp => omega
        case un => omega
        case sz => omega
        case h0 => omega
        case h1 => omega
        case off => exact off3 hne3.1 hne3.2 fS
        clear kNw N5 kFr
        intro h' tk' F' N'
        k_steps
        (rename Fr _ _ _ _ => kF)
        (rename News _ _ _ _ => kN)
        (rename _ = Data.cell (some (Value.ref _)) => kD)
        (rename _ < _ ∧ _ < _ ∧ _ < _ ∧ _ => kL)
        rw [idx_eq, idx_last, idx_next hb.2] at kN
        k_dflt (refine' Mid.row kF kN ?hn kD ?hm ?h1 ?h2 kL.2.2.2.2.2.2 fS fR fN fo MA ?hv ?os KO hov4 ?sm ?hl)
        case hn => exact List.forall_mem_cons.mpr ⟨by k_mem, List.forall_mem_cons.mpr ⟨by k_mem, List.forall_mem_cons.mpr ⟨by k_mem, List.forall_mem_cons.mpr ⟨by k_mem, fun p hp => by k_mem⟩⟩⟩⟩
        case hm => walk_at "lawoff"
        case h1 => rfl
        case h2 => rfl
        case os => exact (OS.set (OS.getD (by omega)) _).set (OS.getD (by omega)) _
        case sm => exact smalls_set (smalls_set hsm (smalls_getD hsm _) _) (smalls_getD hsm _) _
        case hv => exact swap_list (by omega)
        case hl => (simp only [List.length_set]; omega)
      · exfalso
        omega
      · unfold Held
        (rename Fr _ _ _ _ => kFr)
        (rename News _ _ _ _ => kNw)
        have N5 := news_tail kNw
        have hb8 : vs.length ≤ 100 := by omega
        k_dflt (refine' copy_spec (Cx.mk kBw kFr kX0 N5 kT0) rfl ?M ?dp ?un ?sz ?hS ?_)
        case M => exact MA.mono fun p hp => by k_mem
        case dp => omega
        case un => omega
        case sz => omega
        case hS => k_mem
        clear kNw N5 kFr
        intro M' D' S' n' add' h' tk' F' N' hgt' MA' hS'
        k_steps
        (rename Fr _ _ _ _ => kF)
        (rename News _ _ _ _ => kN)
        (rename ∀ p ∈ add' ++ _, p.1 < _ => kL)
        k_dflt (refine' Mid.kept kF kN hgt' kL hcell ?hm ?h1 ?h2 fS fR fN fo MA RL OS MA' hS' hov4 hsm ?hl ?hz)
        case hm => walk_at "lawoff"
        case h1 => rfl
        case h2 => rfl
        case hl => omega
        case hz => omega
      · unfold Held
        (rename Fr _ _ _ _ => kFr)
        (rename News _ _ _ _ => kNw)
        have N5 := news_tail kNw
        have hb8 : vs.length ≤ 100 := by omega
        (rename Int.fmod _ ((vs.length : Int) + 1) ≠ (vs.length : Int) => hd1)
        have hb := dep_lt hd1
        k_dflt (refine' poke_spec (Cx.mk kBw kFr kX0 N5 kT0) rfl ?M ?v ?dp ?un ?sz ?h0 ?h1 ?off ?_)
        case M => exact MA.mono fun p hp => by k_mem
        case v => exact hov4.mono fun p hp => by k_mem
        case dp => omega
        case un => omega
        case sz => omega
        case h0 => omega
        case h1 => omega
        case off => exact off3 hne3.1 hne3.2 fS
        clear kNw N5 kFr
        intro h' tk' F' N'
        k_steps
        (rename Fr _ _ _ _ => kF)
        (rename News _ _ _ _ => kN)
        (rename _ = Data.cell (some (Value.ref _)) => kD)
        (rename _ < _ ∧ _ < _ ∧ _ < _ ∧ _ => kL)
        rw [idx_eq, idx_next hb.2] at kN
        k_dflt (refine' Mid.row kF kN ?hn kD ?hm ?h1 ?h2 kL.2.2.2.2 fS fR fN fo MA ?hv ?os KO hov4 ?sm ?hl)
        case hn => exact List.forall_mem_cons.mpr ⟨by k_mem, List.forall_mem_cons.mpr ⟨by k_mem, List.forall_mem_cons.mpr ⟨by k_mem, List.forall_mem_cons.mpr ⟨by k_mem, fun p hp => by k_mem⟩⟩⟩⟩
        case hm => walk_at "lawoff"
        case h1 => rfl
        case h2 => rfl
        case os => exact OS.set hov4 _
        case sm => exact smalls_set hsm hosm _
        case hv => exact poke_list (by omega)
        case hl => (simp only [List.length_set]; omega)
      · unfold Held
        (rename Fr _ _ _ _ => kFr)
        (rename News _ _ _ _ => kNw)
        have N5 := news_tail kNw
        have hb8 : vs.length ≤ 100 := by omega
        k_dflt (refine' copy_spec (Cx.mk kBw kFr kX0 N5 kT0) rfl ?M ?dp ?un ?sz ?hS ?_)
        case M => exact MA.mono fun p hp => by k_mem
        case dp => omega
        case un => omega
        case sz => omega
        case hS => k_mem
        clear kNw N5 kFr
        intro M' D' S' n' add' h' tk' F' N' hgt' MA' hS'
        k_steps
        (rename Fr _ _ _ _ => kF)
        (rename News _ _ _ _ => kN)
        (rename ∀ p ∈ add' ++ _, p.1 < _ => kL)
        k_dflt (refine' Mid.kept kF kN hgt' kL hcell ?hm ?h1 ?h2 fS fR fN fo MA RL OS MA' hS' hov4 hsm ?hl ?hz)
        case hm => walk_at "lawoff"
        case h1 => rfl
        case h2 => rfl
        case hl => omega
        case hz => omega)
end
local macro_rules | `(tactic| walk_at "zz") => `(tactic| skip)
local macro_rules | `(tactic| walk_at "zz") => `(tactic| skip)
local macro_rules | `(tactic| walk_at "zz") => `(tactic| skip)
local macro_rules | `(tactic| walk_at "zz") => `(tactic| skip)
local macro_rules | `(tactic| walk_at "zz") => `(tactic| skip)
local macro_rules | `(tactic| walk_at "zz") => `(tactic| skip)
local macro_rules | `(tactic| walk_at "zz") => `(tactic| skip)
local macro_rules | `(tactic| walk_at "zz") => `(tactic| skip)
local macro_rules | `(tactic| walk_at "zz") => `(tactic| skip)
local macro_rules | `(tactic| walk_at "zz") => `(tactic| skip)
local macro_rules | `(tactic| walk_at "zz") => `(tactic| skip)
local macro_rules | `(tactic| walk_at "zz") => `(tactic| skip)
local macro_rules | `(tactic| walk_at "zz") => `(tactic| skip)
local macro_rules | `(tactic| walk_at "zz") => `(tactic| skip)
local macro_rules | `(tactic| walk_at "zz") => `(tactic| skip)
local macro_rules | `(tactic| walk_at "zz") => `(tactic| skip)
local macro_rules | `(tactic| walk_at "zz") => `(tactic| skip)
local macro_rules | `(tactic| walk_at "zz") => `(tactic| skip)
end
end Mine
theorem PySem.Challenge.cw_bq0029_01_holds : PySem.Challenge.rw_bq0029_01.Holds :=
  Mine.law_holds
