import PyProof.Rows.All
import Wide.All
import OpenK.AllK
import Wide.FinOn
import PySem.Challenge.RW_aa6014_01
open PySem PySem.W PyProof.Rows PySem.Calls
set_option Elab.async false
set_option linter.unusedVariables false
set_option maxRecDepth 100000
set_option maxHeartbeats 8000000
namespace Mine
open PySem.Builtin PySem.Builtin.Str
open_top hd for PySem.Challenge.rw_aa6014_01

/-! part TA -/
section
section
variable {prog : Program} {w : World} {A : Around} {E : Value → Shared → Prop} {s : Shared} {K : Frag} {h₀ : Heap} {L : Addr} {m : Str → Option Value} {news : List (Addr × Obj)}
theorem in_no {x y : Str} {u t : Tok} {Q : Value → Shared → Prop} (hn : (occurrences x y 0 x.length 1).isEmpty = true) (h : Q (.bool false) s) :
    wpAny (model prog w) A (compareOp .In (.str y u) (.str x t)) Q E s := in_str (by rw [hn]; exact h)
theorem list_top {l : Addr} {items : Array Value} {n : Nat} {d : Option Addr} {sl : Array (Option Value)} {Q : Value → Shared → Prop} (F : Fr h₀ L s.heap m) (X : K.In h₀) (N : News h₀ L s.heap news)
    (ho : K.lookup l = some { cls := .type "tuple", dict := d, data := .seq items n, slots := sl })
    (h : ∀ D c h', Fr h₀ L h' m → News h₀ L h' ((D, listOf items c) :: news) → (∀ q ∈ news, q.1 < D) → Q (.ref D) { s with heap := h' }) (hsz : items.size ≤ sizeLine) :
    wpAny (model prog w) A (call (.type "list") [.ref l]) Q E s := list_copyKT F N (kun_topT F X ho) h hsz
theorem truthy_top {l : Addr} {n : Nat} {d : Option Addr} {sl : Array (Option Value)} {Q : Bool → Shared → Prop} (F : Fr h₀ L s.heap m) (X : K.In h₀)
    (ho : K.lookup l = some { cls := .type "tuple", dict := d, data := .seq #[] n, slots := sl })
    (h : ∀ tk, Q false { s with toks := tk }) :
    wpAny (model prog w) A (truthy (.ref l)) Q E s := truthy_tuple (kun_topT F X ho) (by decide) (h _)
end
local macro_rules | `(tactic| walk_at "truthy ref") => `(tactic| (k_here; k_dflt (refine' truthy_top ?F ?X ?o ?_; (case F => k_asm); (case X => k_asm); (case o => k_is); k_whole); intro tk'))
local macro_rules | `(tactic| walk_at "compareOp In str str") => `(tactic| (refine in_no (by assumption) ?_))
local macro_rules | `(tactic| walk_at "call type:list") => `(tactic| (k_here; (with_reducible show wpAny _ _ (call (Value.type _) [Value.ref _]) _ _ _); (with_unfolding_all refine' list_top ?k1 ?k2 ?k3 ?k4 ?_ ?z; (case k1 => k_asm); (case k2 => k_asm); (case k3 => k_asm); (case k4 => k_is); (case z => size_fits); k_whole); intro D' c' h' F' N' l1; (try k_lt l1); (try k_sweep)))

local macro_rules | `(tactic| ktr_enter) => `(tactic| (refine' code_def ?k1 ?k2 ?k3 ?k4 ?k5 ?kA ?kF ?kK ?k6 ?k7 ?k8 ?k9 ?kB ?_ ?c2 ?c3 ?c4 ?c5; (case kA => exact rfl); (case kF => exact rfl); (case kK => first | exact rfl | assumption); (case k1 => k_asm); (case k2 => k_asm); (case k3 => k_asm); (case k4 => k_asm); (case k5 => k_asm); (case k6 => k_is); (case k7 => k_is); (case k8 => ktr_room); (case k9 => first | exact BindsTo.of_eq rfl | exact binds_K (by k_in) rfl (by k_is) rfl rfl rfl); (case c5 => decide); (case kB => exact locs rfl); (case c2 => exact rfl); (case c3 => exact rfl); (case c4 => exact rfl); k_whole; intro g' L' h' FG' F' N' B' X' T'; (try dsimp only); (try k_fold)))

local macro_rules | `(tactic| walk_at "exec For Name Name cons nil") => `(tactic| (k_here; (rename Fr _ _ _ _ => lF'); (with_unfolding_all refine' For_turns lF' ?_; k_whole)))
local macro_rules | `(tactic| walk_at "pyIter ref") => `(tactic| (k_here; (with_reducible show wpAny _ _ (pyIter (Value.ref _)) (fun it s₂ => TurnsAt _ _ _ _ _ _ _ _ _ it s₂) _ _); (with_unfolding_all refine' iter_listTurns (vs := []) ?h ?F ?N ?X ?c ?d ?_; (case h => with_unfolding_all rfl); (case F => k_asm); (case N => k_asm); (case X => k_mem); (case c => exact rfl); (case d => exact rfl); k_whole); intro i' l1; (try k_lt l1)))
local macro_rules | `(tactic| k_room) => `(tactic| ktr_room)



theorem task_new {prog : Program} {w : World} {p : Program} {loose : List Str} {mean : ExcName → Option Value} {mg mb : Str → Option Value}
    {dp un : Nat} {gd : Option (List Code)} {cn : Str} {cs : Scope} {a : Addr} {ccd : Value} {cl : List (Str × Addr)} {outer : List Env} {A₀ : Around} {base h₀ : Heap} {L : Addr} {m : Str → Option Value} {s : Shared} {news : List (Addr × Obj)} {nm : Str} {t : Tok} {Q E : Value → Shared → Prop}
    (B : Below A₀ base outer h₀) (F : Fr h₀ L s.heap m) (X : (hd.heap_39 w.params).In h₀) (N : News h₀ L s.heap news) (T : Top p loose mean mg mb h₀) (hk : cs.kind = .function)
    (hdp : dp + 8 < recursionLimit) (hun : un + 64 < cLine)
    (hno : (occurrences nm (Str.ofString "=") 0 nm.length 1).isEmpty = true)
    (hret : ∀ x d es n h' tk', Fr h₀ L h' m → News h₀ L h' ((x, instObj 353 d) :: (d, dictOf es n) :: news) → (∀ q ∈ news, q.1 < d) → d < x → getL (Str.ofString "name") es = some (some (.str nm t)) → Q (.ref x) { s with heap := h', toks := tk' }) :
    wpAny (model prog w) (ktrTop dp un gd cn cs L a ccd cl outer) (call (.ref 353) [.str nm t, .none]) Q E s := by
  w_top off
  k_dflt (refine' call_cls ?k1 ?k2 ?k3 ?k4 ?k5 ?k6 ?_; (case k1 => k_asm); (case k2 => k_asm); (case k3 => k_asm); (case k4 => k_is); (case k5 => k_is); (case k6 => k_is); k_whole; intro x' d' h' F' N' l1 l2; (try k_lt2 l2); (try k_sweep))
  k_dflt (refine' code_def (binds := [(Str.ofString "self", .ref x'), (Str.ofString "name", .str nm t), (Str.ofString "actions", .none), (Str.ofString "file_dep", .ref 254), (Str.ofString "targets", .ref 255), (Str.ofString "task_dep", .ref 256), (Str.ofString "uptodate", .ref 257), (Str.ofString "calc_dep", .ref 258), (Str.ofString "setup", .ref 259), (Str.ofString "subtask_of", .none), (Str.ofString "has_subtask", .bool false), (Str.ofString "getargs", .none)]) ?k1 ?k2 ?k3 ?k4 ?k5 ?kA ?kF ?kK ?k6 ?k7 ?k8 ?k9 ?kB ?_ ?c2 ?c3 ?c4 ?c5; (case kA => exact rfl); (case kF => exact rfl); (case kK => first | exact rfl | assumption); (case k1 => k_asm); (case k2 => k_asm); (case k3 => k_asm); (case k4 => k_asm); (case k5 => k_asm); (case k6 => k_is); (case k7 => k_is); (case k8 => ktr_room); (case k9 => exact binds_K (by k_in) rfl (by k_is) rfl rfl (by kernel_rfl)); (case c5 => decide); (case kB => exact locs rfl); (case c2 => exact rfl); (case c3 => exact rfl); (case c4 => exact rfl); k_whole; intro g' L' h' FG' F' N' B' X' T'; (try dsimp only); (try k_fold))
  k_steps
  all_goals (
    rename Fr _ _ _ _ => eF
    rename News _ _ _ _ => eN
    refine' hret x' d' _ _ _ _ eF ?a l1 l2 ?b
    case a =>
      refine' kst_newsOf eN (List.forall_mem_cons.mpr ⟨?a1, List.forall_mem_cons.mpr ⟨?a2, ?a3⟩⟩)
      case a1 => k_mem
      case a2 => k_mem
      case a3 => (intro p hp; (repeat (first | exact hp | refine List.Mem.tail _ ?_)))
    case b => with_unfolding_all rfl)
end

/-! part LF -/
section
local macro_rules | `(tactic| ktr_enter) => `(tactic| (refine' code_def ?k1 ?k2 ?k3 ?k4 ?k5 ?kA ?kF ?kK ?k6 ?k7 ?k8 ?k9 ?kB ?_ ?c2 ?c3 ?c4 ?c5; (case kA => exact rfl); (case kF => exact rfl); (case kK => first | exact rfl | assumption); (case k1 => k_asm); (case k2 => k_asm); (case k3 => k_asm); (case k4 => k_asm); (case k5 => k_asm); (case k6 => k_is); (case k7 => k_is); (case k8 => ktr_room); (case k9 => first | exact BindsTo.of_eq rfl | exact binds_K (by k_in) rfl (by k_is) rfl rfl rfl); (case c5 => decide); (case kB => exact locs rfl); (case c2 => exact rfl); (case c3 => exact rfl); (case c4 => exact rfl); k_whole; intro g' L' h' FG' F' N' B' X' T'; (try dsimp only); (try k_fold)))
local macro_rules | `(tactic| k_room) => `(tactic| ktr_room)
section
variable {prog : Program} {w : World} {A : Around} {E : Value → Shared → Prop} {s : Shared} {h₀ : Heap} {L l : Addr}
theorem sub6 {value slice : PySem.Expr} {news : List (Addr × Obj)} {v0 v1 v2 v3 v4 v5 : Value} {n : Nat} {k : Int} {u : Tok} {Q : Value → Shared → Prop} (N : News h₀ L s.heap news) (hm : (l, listOf #[v0, v1, v2, v3, v4, v5] n) ∈ news)
    (h0 : 0 ≤ k) (h1 : k < 6) (q0 : k = 0 → Q v0 s) (q1 : k = 1 → Q v1 s) (q2 : k = 2 → Q v2 s) (q3 : k = 3 → Q v3 s) (q4 : k = 4 → Q v4 s) (q5 : k = 5 → Q v5 s)
    (hs : subscripted slice false (.ref l) (.int k u) = operate [.ref l, .int k u] (getItem (.ref l) (.int k u)) := by with_unfolding_all rfl) :
    wpAny (model prog w) A (subscriptTail value slice (.ref l) (.int k u)) Q E s := by
  have hl : s.heap.IsList l #[v0, v1, v2, v3, v4, v5] := ⟨_, (N _ hm).1, rfl, n, rfl⟩
  refine tail_any hl.typeIs slot_list_getitem.lookup ?_ hs
  have hk : k = 0 ∨ k = 1 ∨ k = 2 ∨ k = 3 ∨ k = 4 ∨ k = 5 := by omega
  rcases hk with e | e | e | e | e | e
  · exact wpAny_getItem_list (x := v0) hl h0 (by omega) (by subst e; rfl) (q0 e)
  · exact wpAny_getItem_list (x := v1) hl h0 (by omega) (by subst e; rfl) (q1 e)
  · exact wpAny_getItem_list (x := v2) hl h0 (by omega) (by subst e; rfl) (q2 e)
  · exact wpAny_getItem_list (x := v3) hl h0 (by omega) (by subst e; rfl) (q3 e)
  · exact wpAny_getItem_list (x := v4) hl h0 (by omega) (by subst e; rfl) (q4 e)
  · exact wpAny_getItem_list (x := v5) hl h0 (by omega) (by subst e; rfl) (q5 e)
end
local macro_rules | `(tactic| walk_at "subscriptTail") => `(tactic| (k_here; (with_reducible show wpAny _ _ (subscriptTail _ _ (Value.ref _) (Value.int _ _)) _ _ _); k_dflt (refine' sub6 ?N ?m ?a ?b ?c ?d ?e ?f ?g ?h ?i; (case N => k_asm); (case m => k_mem); (case a => exact Int.fmod_nonneg_of_pos _ (by decide)); (case b => exact Int.fmod_lt_of_pos _ (by decide)); (case i => with_unfolding_all rfl)); all_goals intro hq'))

theorem fail_tells {prog : Program} {w : World} {p : Program} {loose : List Str} {mean : ExcName → Option Value} {mg mb : Str → Option Value}
    {dp un : Nat} {gd : Option (List Code)} {cn : Str} {cs : Scope} {a : Addr} {ccd : Value} {cl : List (Str × Addr)} {outer : List Env} {A₀ : Around} {base h₀ : Heap} {L : Addr} {m : Str → Option Value} {s : Shared} {news : List (Addr × Obj)}
    {v : Int} {t1 : Tok} {Q E : Value → Shared → Prop}
    (B : Below A₀ base outer h₀) (F : Fr h₀ L s.heap m) (X : (hd.heap_39 w.params).In h₀)
    (N : News h₀ L s.heap news) (T : Top p loose mean mg mb h₀) (hk : cs.kind = .function)
    (hdp : dp + 8 < recursionLimit) (hun : un + 64 < cLine)
    (hv0 : 0 ≤ v) (hv1 : v < 1000003)
    (hret : ∀ x C d kh kt mv h' tk', (v.fmod 6 = 0 ∧ C = 161 ∨ v.fmod 6 = 1 ∧ C = 173 ∨ v.fmod 6 = 2 ∧ C = 185 ∨ v.fmod 6 = 3 ∧ C = 197 ∨ v.fmod 6 = 4 ∧ C = 209 ∨ v.fmod 6 = 5 ∧ C = 149) →
      Fr h₀ L h' m →
      News h₀ L h' ((x, instObj C d) :: (d, dictOf [⟨kh, .str (Str.ofString "message") kt, mv⟩] 1) :: news) → (∀ q ∈ news, q.1 < d) → d < x → Q (.ref x) { s with heap := h', toks := tk' }) :
    wpAny (model prog w) (ktrTop dp un gd cn cs L a ccd cl outer) (call (.ref 426) [.int v t1]) Q E s := by
  w_top off
  refine wpAny_call ?_
  k_dflt ktr_enter
  k_steps
  all_goals (
    rename Fr _ _ _ _ => eF
    rename News _ _ _ _ => eN
    refine' hret _ _ _ _ _ _ _ _ ?o eF ?a ?l1 ?l2
    case a =>
      refine' kst_newsOf eN (List.forall_mem_cons.mpr ⟨?a1, List.forall_mem_cons.mpr ⟨?a2, ?a3⟩⟩)
      case a1 => k_mem
      case a2 => k_mem
      case a3 => (intro p hp; (repeat (first | exact hp | refine List.Mem.tail _ ?_)))
    case o => first | omega | simp [*]
    case l2 => assumption
    case l1 => first | assumption | exact kst_ltOf (by tbn_find))
end

/-! part LN -/
section
local macro_rules | `(tactic| ktr_enter) => `(tactic| (refine' code_def ?k1 ?k2 ?k3 ?k4 ?k5 ?kA ?kF ?kK ?k6 ?k7 ?k8 ?k9 ?kB ?_ ?c2 ?c3 ?c4 ?c5; (case kA => exact rfl); (case kF => exact rfl); (case kK => first | exact rfl | assumption); (case k1 => k_asm); (case k2 => k_asm); (case k3 => k_asm); (case k4 => k_asm); (case k5 => k_asm); (case k6 => k_is); (case k7 => k_is); (case k8 => ktr_room); (case k9 => first | exact BindsTo.of_eq rfl | exact binds_K (by k_in) rfl (by k_is) rfl rfl rfl); (case c5 => decide); (case kB => exact locs rfl); (case c2 => exact rfl); (case c3 => exact rfl); (case c4 => exact rfl); k_whole; intro g' L' h' FG' F' N' B' X' T'; (try dsimp only); (try k_fold)))
local macro_rules | `(tactic| k_room) => `(tactic| ktr_room)

theorem num_tells {prog : Program} {w : World} {p : Program} {loose : List Str} {mean : ExcName → Option Value} {mg mb : Str → Option Value}
    {dp un : Nat} {gd : Option (List Code)} {cn : Str} {cs : Scope} {a : Addr} {ccd : Value} {cl : List (Str × Addr)} {outer : List Env} {A₀ : Around} {base h₀ : Heap} {L : Addr} {m : Str → Option Value} {s : Shared} {news : List (Addr × Obj)} {D : Addr} {vs : List Value} {ns : List Int} {c : Nat} {k : Int} {t : Tok} {Q E : Value → Shared → Prop}
    (B : Below A₀ base outer h₀) (F : Fr h₀ L s.heap m) (X : (hd.heap_39 w.params).In h₀) (N : News h₀ L s.heap ((D, listOf vs.toArray c) :: news)) (T : Top p loose mean mg mb h₀) (hk : cs.kind = .function)
    (hdp : dp + 8 < recursionLimit) (hun : un + 64 < cLine)
    (hI : IntsAre vs ns) (hlen : ns.length ≤ 24) (h0 : 0 ≤ k) (h1 : k < 30)
    (hret : ∀ v t h' tk', 0 ≤ v → v < 1000003 → Fr h₀ L h' m → News h₀ L h' ((D, listOf vs.toArray c) :: news) → Q (.int v t) { s with heap := h', toks := tk' }) :
    wpAny (model prog w) (ktrTop dp un gd cn cs L a ccd cl outer) (call (.ref 419) [.ref D, .int k t]) Q E s := by
  w_top off
  refine wpAny_call ?_
  k_dflt ktr_enter
  k_steps
  all_goals (
    rename Fr _ _ _ _ => eF
    rename News _ _ _ _ => eN
    refine hret _ _ _ _ (Int.fmod_nonneg_of_pos _ (by decide)) (Int.lt_of_lt_of_le (Int.fmod_lt_of_pos _ (by decide)) (by decide)) eF eN)
end

/-! part LD -/
section
abbrev tupOf (vs : List Value) : Obj := { cls := .type "tuple", data := .seq vs.toArray }
theorem fmod7 (k : Int) : k.fmod 7 = 0 ∨ k.fmod 7 = 1 ∨ k.fmod 7 = 2 ∨ k.fmod 7 = 3 ∨ k.fmod 7 = 4 ∨ k.fmod 7 = 5 ∨ k.fmod 7 = 6 := by
  have h0 := Int.fmod_nonneg_of_pos k (show (0 : Int) < 7 by decide)
  have h1 := Int.fmod_lt_of_pos k (show (0 : Int) < 7 by decide)
  omega
theorem nm_no (k : Int) : (occurrences (Str.ofString "t" ++ Str.ofString (toString (k.fmod 7))) (Str.ofString "=") 0 (Str.ofString "t" ++ Str.ofString (toString (k.fmod 7))).length 1).isEmpty = true := by
  rcases fmod7 k with e | e | e | e | e | e | e <;> rw [e] <;> decide +kernel
theorem nm_ok (k : Int) : PyData.strOk (Str.ofString "t" ++ Str.ofString (toString (k.fmod 7))) = true := by
  rcases fmod7 k with e | e | e | e | e | e | e <;> rw [e] <;> decide +kernel
theorem fdiv16_lt {v : Int} (h0 : 0 ≤ v) (h : v < 1000003) : v.fdiv 16 < 1000003 := by
  rw [Int.fdiv_eq_ediv_of_nonneg _ (by decide)]; omega
theorem fdiv16_ge {v : Int} (h0 : 0 ≤ v) : 0 ≤ v.fdiv 16 := by
  rw [Int.fdiv_eq_ediv_of_nonneg _ (by decide)]; omega
theorem sub_at {prog : Program} {w : World} {A : Around} {E : Value → Shared → Prop} {s : Shared} {h₀ : Heap} {L l : Addr} {value slice : PySem.Expr} {news : List (Addr × Obj)} {items : Array Value} {x : Value} {n : Nat} {k j : Int} {u : Tok} {Q : Value → Shared → Prop} (N : News h₀ L s.heap news) (hm : (l, listOf items n) ∈ news)
    (e : k = j) (h0 : 0 ≤ j) (hfit : j < 2 ^ 63) (hx : items[j.toNat]? = some x) (q : Q x s)
    (hs : subscripted slice false (.ref l) (.int k u) = operate [.ref l, .int k u] (getItem (.ref l) (.int k u)) := by with_unfolding_all rfl) :
    wpAny (model prog w) A (subscriptTail value slice (.ref l) (.int k u)) Q E s := by
  subst e
  have hl : s.heap.IsList l items := ⟨_, (N _ hm).1, rfl, n, rfl⟩
  exact tail_any hl.typeIs slot_list_getitem.lookup (wpAny_getItem_list hl h0 hfit hx q) hs
local macro_rules | `(tactic| ktr_enter) => `(tactic| (refine' code_def ?k1 ?k2 ?k3 ?k4 ?k5 ?kA ?kF ?kK ?k6 ?k7 ?k8 ?k9 ?kB ?_ ?c2 ?c3 ?c4 ?c5; (case kA => exact rfl); (case kF => exact rfl); (case kK => first | exact rfl | assumption); (case k1 => k_asm); (case k2 => k_asm); (case k3 => k_asm); (case k4 => k_asm); (case k5 => k_asm); (case k6 => k_is); (case k7 => k_is); (case k8 => ktr_room); (case k9 => first | exact BindsTo.of_eq rfl | exact binds_K (by k_in) rfl (by k_is) rfl rfl rfl); (case c5 => decide); (case kB => exact locs rfl); (case c2 => exact rfl); (case c3 => exact rfl); (case c4 => exact rfl); k_whole; intro g' L' h' FG' F' N' B' X' T'; (try dsimp only); (try k_fold)))
local macro_rules | `(tactic| k_room) => `(tactic| ktr_room)
local macro_rules | `(tactic| k_get) => `(tactic| assumption)
local macro_rules | `(tactic| k_all) => `(tactic| assumption)
local macro_rules | `(tactic| walk_at "call ref") => `(tactic| (k_here; (with_reducible show wpAny _ _ (call (Value.ref 353) [Value.str _ _, Value.none]) _ _ _); k_dflt (refine' task_new ?k1 ?k2 ?k3 ?k4 ?k5 ?k6 ?k7 ?k8 ?k9 ?_; (case k1 => k_asm); (case k2 => k_asm); (case k3 => k_asm); (case k4 => k_asm); (case k5 => k_asm); (case k6 => first | exact rfl | assumption); (case k7 => ktr_room); (case k8 => ktr_units); (case k9 => exact nm_no _); k_whole); intro x' d' es' n' h' tk' F' N' l1 l2 hg'; (try k_lt l1); (try k_lt2 l2); (try k_sweep)))

local macro_rules | `(tactic| walk_at "call ref") => `(tactic| (k_here; (with_reducible show wpAny _ _ (call (Value.ref 426) [Value.int _ _]) _ _ _); k_dflt (refine' fail_tells ?k1 ?k2 ?k3 ?k4 ?k5 ?k6 ?k7 ?k8 ?k9 ?k10 ?_; (case k1 => k_asm); (case k2 => k_asm); (case k3 => k_asm); (case k4 => k_asm); (case k5 => k_asm); (case k6 => first | exact rfl | assumption); (case k7 => ktr_room); (case k8 => ktr_units); (case k9 => exact fdiv16_ge (by assumption)); (case k10 => exact fdiv16_lt (by assumption) (by assumption)); k_whole); intro x' C' d' kh' kt' mv' h' tk' hC' F' N' l1 l2; (rcases hC' with ⟨hq', hC'⟩ | ⟨hq', hC'⟩ | ⟨hq', hC'⟩ | ⟨hq', hC'⟩ | ⟨hq', hC'⟩ | ⟨hq', hC'⟩) <;> (subst hC'; (try k_lt l1); (try k_lt2 l2); (try k_sweep))))
local macro_rules | `(tactic| walk_at "subscriptTail") => `(tactic| (k_here; (with_reducible show wpAny _ _ (subscriptTail _ _ (Value.ref _) (Value.int _ _)) _ _ _); k_dflt (refine' sub_at ?N ?m ?e ?a ?b ?c ?_ ?i; (case N => k_asm); (case m => k_mem); (case e => assumption); (case a => decide); (case b => decide); (case c => rfl); (case i => with_unfolding_all rfl); k_whole)))

theorem deed_tells {prog : Program} {w : World} {p : Program} {loose : List Str} {mean : ExcName → Option Value} {mg mb : Str → Option Value}
    {dp un : Nat} {gd : Option (List Code)} {cn : Str} {cs : Scope} {a : Addr} {ccd : Value} {cl : List (Str × Addr)} {outer : List Env} {A₀ : Around} {base h₀ : Heap} {L : Addr} {m : Str → Option Value} {s : Shared} {news : List (Addr × Obj)}
    {r told d : Addr} {us : List Value} {cr : Nat} {kh : Int} {kt : Tok} {v k : Int} {t1 t2 : Tok} {Q E : Value → Shared → Prop}
    (B : Below A₀ base outer h₀) (F : Fr h₀ L s.heap m) (X : (hd.heap_39 w.params).In h₀)
    (N : News h₀ L s.heap ((r, listOf us.toArray cr) :: (told, instObj 94 d) :: (d, dictOf [⟨kh, .str (Str.ofString "rows") kt, .ref r⟩] 1) :: news)) (T : Top p loose mean mg mb h₀) (hk : cs.kind = .function)
    (hdp : dp + 20 < recursionLimit) (hun : un + 200 < cLine)
    (hr1 : @Ne Nat told r) (hr2 : @Ne Nat d r) (hr3 : ∀ p ∈ news, p.1 ≠ r) (hus : us.length ≤ 40)
    (hv0 : 0 ≤ v) (hv1 : v < 1000003) (hk0 : 0 ≤ k) (hk1 : k < 30)
    (hret : ∀ x y w1 w2 w3 u1 u2 u3 u4 u5 u6 c' h' tk', PyData.strOk w1 = true → PyData.strOk w2 = true → PyData.strOk w3 = true → Fr h₀ L h' m →
      News h₀ L h' ((r, listOf (us ++ [Value.ref x]).toArray c') :: (x, tupOf [.str w1 u1, .str w2 u2, .str w3 u3]) :: (y, tupOf [.str w1 u4, .str w2 u5, .str w3 u6]) :: (told, instObj 94 d) :: (d, dictOf [⟨kh, .str (Str.ofString "rows") kt, .ref r⟩] 1) :: news) →
      (∀ q ∈ (r, listOf us.toArray cr) :: (told, instObj 94 d) :: (d, dictOf [⟨kh, .str (Str.ofString "rows") kt, .ref r⟩] 1) :: news, q.1 < x) → @LT.lt Nat _ x y → Q (.ref y) { s with heap := h', toks := tk' }) :
    wpAny (model prog w) (ktrTop dp un gd cn cs L a ccd cl outer) (call (.ref 433) [.ref told, .int v t1, .int k t2]) Q E s := by
  w_top off
  refine wpAny_call ?_
  k_dflt (refine' code_def (binds := [(Str.ofString "told", .ref told), (Str.ofString "v", .int v t1), (Str.ofString "k", .int k t2)]) ?k1 ?k2 ?k3 ?k4 ?k5 ?kA ?kF ?kK ?k6 ?k7 ?k8 ?k9 ?kB ?_ ?c2 ?c3 ?c4 ?c5; (case kA => exact rfl); (case kF => exact rfl); (case kK => first | exact rfl | assumption); (case k1 => k_asm); (case k2 => k_asm); (case k3 => k_asm); (case k4 => k_asm); (case k5 => k_asm); (case k6 => k_is); (case k7 => k_is); (case k8 => ktr_room); (case k9 => exact BindsTo.of_eq (by kernel_rfl)); (case c5 => decide); (case kB => exact locs rfl); (case c2 => exact rfl); (case c3 => exact rfl); (case c4 => exact rfl); k_whole; intro g' L' h' FG' F' N' B' X' T'; (try dsimp only); (try k_fold))
  k_steps
  all_goals (
    rename Fr _ _ _ _ => eF
    rename News _ _ _ _ => eN
    simp only [List.push_toArray] at eN
    refine' hret _ _ _ _ _ _ _ _ _ _ _ _ _ _ ?o1 ?o2 ?o3 eF ?a ?l1 ?l2
    case a =>
      refine' kst_newsOf eN (List.forall_mem_cons.mpr ⟨?a1, List.forall_mem_cons.mpr ⟨?a2, List.forall_mem_cons.mpr ⟨?a3, ?a4⟩⟩⟩)
      case a1 => k_mem
      case a3 => k_mem
      case a2 => k_mem
      case a4 => (intro p hp; (repeat (first | exact hp | refine List.Mem.tail _ ?_)))
    case o1 => first | exact nm_ok _ | decide +kernel
    case o2 => first | exact nm_ok _ | decide +kernel
    case o3 => first | exact nm_ok _ | decide +kernel
    case l2 => omega
    case l1 => (refine List.forall_mem_cons.mpr ⟨(?_ : @LT.lt Nat _ _ _), List.forall_mem_cons.mpr ⟨(?_ : @LT.lt Nat _ _ _), List.forall_mem_cons.mpr ⟨(?_ : @LT.lt Nat _ _ _), kst_ltOf (by tbn_find)⟩⟩⟩ <;> (try dsimp only) <;> omega))
end

/-! part LL -/
section
/-- what the call has made and the loop needs: the four lists first -/
abbrev LG (r0 r1 b0 b1 bk P x0 d0 x1 d1 D : Addr) (e0 e1 : DictEntry) (ws : List Value) (o0 o1 o2 o3 : Obj) (rest : List (Addr × Obj)) : List (Addr × Obj) :=
  (r0, o0) :: (r1, o1) :: (b0, o2) :: (b1, o3) :: (bk, listOf #[Value.ref b0, Value.ref b1] 0) :: (P, listOf #[Value.ref x0, Value.ref x1] 0) :: (x0, instObj 94 d0) :: (d0, dictOf [e0] 1) :: (x1, instObj 94 d1) :: (d1, dictOf [e1] 1) :: (D, listOf ws.toArray 0) :: rest
structure Dt (rest : List (Addr × Obj)) (us0 us1 vs0 vs1 : List Value) (ds0 ds1 : List Dat) (i : Nat) : Prop where
  a0 : DatAll rest us0 ds0
  a1 : DatAll rest us1 ds1
  c0 : DatAll rest vs0 ds0
  c1 : DatAll rest vs1 ds1
  k0 : ∀ d ∈ ds0, kqdOk 8 d = true
  k1 : ∀ d ∈ ds1, kqdOk 8 d = true
  l0 : ds0.length ≤ i + 1
  l1 : ds1.length ≤ i + 1
structure Ap (r0 r1 b0 b1 : Addr) (rest : List (Addr × Obj)) : Prop where
  r0 : ∀ p ∈ rest, p.1 ≠ r0
  r1 : ∀ p ∈ rest, p.1 ≠ r1
  b0 : ∀ p ∈ rest, p.1 ≠ b0
  b1 : ∀ p ∈ rest, p.1 ≠ b1
def FrOff (m₀ m : Str → Option Value) : Prop := ∀ z, z ≠ Str.ofString "k" → ([Str.ofString "v", Str.ofString "s", Str.ofString "row"] : List Str).contains z = false → m z = m₀ z
def TEnd (h₀ : Heap) (L : Addr) (G : Obj → Obj → Obj → Obj → List (Addr × Obj) → List (Addr × Obj)) (m₀ : Str → Option Value) (before rest own : List (Addr × Obj)) (i : Nat) (s₁ s₂ : Shared) : Prop :=
  ∃ h' tk' m' us0 us1 vs0 vs1 n0 n1 n2 n3 ds0 ds1 x tx y ty, s₂ = { s₁ with heap := h', toks := tk' } ∧ Fr h₀ L h' m' ∧
    News h₀ L h' (G (listOf (List.toArray us0) n0) (listOf (List.toArray us1) n1) (listOf (List.toArray vs0) n2) (listOf (List.toArray vs1) n3) ((x, tx) :: (y, ty) :: (rest ++ own))) ∧
    (∀ q ∈ before, @LT.lt Nat _ q.1 x) ∧ @LT.lt Nat _ x y ∧ Dt ((x, tx) :: (y, ty) :: rest) us0 us1 vs0 vs1 ds0 ds1 i ∧ FrOff m₀ m'
def TPost (h₀ : Heap) (L : Addr) (G : Obj → Obj → Obj → Obj → List (Addr × Obj) → List (Addr × Obj)) (m₀ : Str → Option Value) (before rest own : List (Addr × Obj)) (i : Nat) (s₁ : Shared) (Q : Flow → Shared → Prop) (f : Flow) (s₂ : Shared) : Prop :=
  match f with
  | .ret v => Q (.ret v) s₂
  | .brk => Q .next s₂
  | _ => TEnd h₀ L G m₀ before rest own i s₁ s₂
/-- what holds between the turns -/
def J (r0 r1 b0 b1 bk P x0 d0 x1 d1 D : Addr) (e0 e1 : DictEntry) (ws : List Value) (m₀ : Str → Option Value) (i : Nat) (m : Str → Option Value) (nx : List (Addr × Obj)) : Prop :=
  ∃ us0 us1 vs0 vs1 n0 n1 n2 n3 ds0 ds1 rest, nx = LG r0 r1 b0 b1 bk P x0 d0 x1 d1 D e0 e1 ws (listOf (List.toArray us0) n0) (listOf (List.toArray us1) n1) (listOf (List.toArray vs0) n2) (listOf (List.toArray vs1) n3) rest ∧
    Ap r0 r1 b0 b1 rest ∧ Dt rest us0 us1 vs0 vs1 ds0 ds1 i ∧ FrOff m₀ m
section
variable {prog : Program} {w : World} {A : Around} {E : Value → Shared → Prop} {s : Shared} {env : Env} {h₀ : Heap} {body : List Stmt} {Q : Flow → Shared → Prop}
theorem tpost_inv {r0 r1 b0 b1 bk P x0 d0 x1 d1 D : Addr} {e0 e1 : DictEntry} {ws : List Value} {m₀ : Str → Option Value} {us0 us1 vs0 vs1 : Obj} {rest own : List (Addr × Obj)} {i : Nat} {L : Addr} {s₁ s₂ : Shared}
    (hoff : OwnOff own ((LG r0 r1 b0 b1 bk P x0 d0 x1 d1 D e0 e1 ws us0 us1 vs0 vs1 rest).map (·.1))) (hap : Ap r0 r1 b0 b1 rest)
    (h : TEnd h₀ L (LG r0 r1 b0 b1 bk P x0 d0 x1 d1 D e0 e1 ws) m₀ (LG r0 r1 b0 b1 bk P x0 d0 x1 d1 D e0 e1 ws us0 us1 vs0 vs1 (rest ++ own)) rest own (i + 1) s₁ s₂) :
    InvEndG h₀ L (J r0 r1 b0 b1 bk P x0 d0 x1 d1 D e0 e1 ws m₀ (i + 1)) own s₁ s₂ := by
  obtain ⟨h', tk', m', us0', us1', vs0', vs1', n0, n1, n2, n3, ds0, ds1, x, tx, y, ty, rfl, F, N, hlt, hxy, hd, hm⟩ := h
  have ltx : ∀ q ∈ LG r0 r1 b0 b1 bk P x0 d0 x1 d1 D e0 e1 ws us0 us1 vs0 vs1 (rest ++ own), @Ne Nat q.1 x := fun q hq => Nat.ne_of_lt (hlt q hq)
  have lty : ∀ q ∈ LG r0 r1 b0 b1 bk P x0 d0 x1 d1 D e0 e1 ws us0 us1 vs0 vs1 (rest ++ own), @Ne Nat q.1 y := fun q hq => Nat.ne_of_lt (Nat.lt_trans (hlt q hq) hxy)
  have ownIn : ∀ p ∈ own, p ∈ LG r0 r1 b0 b1 bk P x0 d0 x1 d1 D e0 e1 ws us0 us1 vs0 vs1 (rest ++ own) := fun p hp => by
    simp only [LG, List.mem_cons, List.mem_append]; simp [hp]
  have apx : ∀ (r : Addr) (o : Obj), (r, o) ∈ LG r0 r1 b0 b1 bk P x0 d0 x1 d1 D e0 e1 ws us0 us1 vs0 vs1 (rest ++ own) → (∀ p ∈ rest, p.1 ≠ r) → ∀ p ∈ (x, tx) :: (y, ty) :: rest, p.1 ≠ r := by
    intro r o hr h p hp
    rcases List.mem_cons.mp hp with rfl | hp
    · exact fun e => ltx _ hr e.symm
    · rcases List.mem_cons.mp hp with rfl | hp
      · exact fun e => lty _ hr e.symm
      · exact h p hp
  refine ⟨h', tk', m', _, LG r0 r1 b0 b1 bk P x0 d0 x1 d1 D e0 e1 ws (listOf us0'.toArray n0) (listOf us1'.toArray n1) (listOf vs0'.toArray n2) (listOf vs1'.toArray n3) ((x, tx) :: (y, ty) :: rest), rfl, F, N, ?_, ?_, ?_, us0', us1', vs0', vs1', n0, n1, n2, n3, ds0, ds1, _, rfl, ⟨?_, ?_, ?_, ?_⟩, hd, hm⟩
  · intro p hp
    simp only [LG, List.mem_cons, List.mem_append] at hp ⊢
    rcases hp with hp | hp | hp | hp | hp | hp | hp | hp | hp | hp | hp | hp | hp | hp <;> simp [hp]
  · intro p hp
    simp only [LG, List.mem_cons, List.mem_append]; simp [hp]
  · intro p hp b hb
    obtain ⟨q, hq, rfl⟩ := List.mem_map.mp hb
    have old : ∀ o : Addr × Obj, o ∈ LG r0 r1 b0 b1 bk P x0 d0 x1 d1 D e0 e1 ws us0 us1 vs0 vs1 rest → p.1 ≠ o.1 := fun o ho => hoff p hp _ (List.mem_map.mpr ⟨o, ho, rfl⟩)
    simp only [LG, List.mem_cons] at hq
    rcases hq with rfl | rfl | rfl | rfl | rfl | rfl | rfl | rfl | rfl | rfl | rfl | rfl | rfl | hq
    · exact old (r0, us0) (by simp [LG])
    · exact old (r1, us1) (by simp [LG])
    · exact old (b0, vs0) (by simp [LG])
    · exact old (b1, vs1) (by simp [LG])
    · exact old (bk, _) (by simp [LG])
    · exact old (P, _) (by simp [LG])
    · exact old (x0, instObj 94 d0) (by simp [LG])
    · exact old (d0, dictOf [e0] 1) (by simp [LG])
    · exact old (x1, instObj 94 d1) (by simp [LG])
    · exact old (d1, dictOf [e1] 1) (by simp [LG])
    · exact old (D, listOf ws.toArray 0) (by simp [LG])
    · exact ltx _ (ownIn p hp)
    · exact lty _ (ownIn p hp)
    · exact old q (by simp [LG, hq])
  · exact apx r0 us0 (by simp [LG]) hap.r0
  · exact apx r1 us1 (by simp [LG]) hap.r1
  · exact apx b0 vs0 (by simp [LG]) hap.b0
  · exact apx b1 vs1 (by simp [LG]) hap.b1

theorem loop30 {r0 r1 b0 b1 bk P x0 d0 x1 d1 D rr : Addr} {e0 e1 : DictEntry} {ws : List Value} {m₀ : Str → Option Value} {us0 us1 vs0 vs1 : List Value} {n0 n1 n2 n3 : Nat} {ds0 ds1 : List Dat} {rest news : List (Addr × Obj)} {t₀ u₀ v₀ : Tok}
    (hh : A.handled = none) (hr : IsRange s.heap rr 0 30 1 t₀ u₀ v₀) (F : Fr h₀ env.locals s.heap m₀) (N : News h₀ env.locals s.heap news)
    (hin : ∀ p ∈ LG r0 r1 b0 b1 bk P x0 d0 x1 d1 D e0 e1 ws (listOf us0.toArray n0) (listOf us1.toArray n1) (listOf vs0.toArray n2) (listOf vs1.toArray n3) rest, p ∈ news)
    (hap : Ap r0 r1 b0 b1 rest) (hd : Dt rest us0 us1 vs0 vs1 ds0 ds1 0)
    (turn : ∀ (i : Nat) (k : Int) t (u : Str → Option Value) h tk rest own us0 us1 vs0 vs1 n0 n1 n2 n3 ds0 ds1, 0 ≤ k → k < 30 → i < 30 → Dt rest us0 us1 vs0 vs1 ds0 ds1 i → (∀ p ∈ rest ++ own, p.1 ≠ r0) → (∀ p ∈ rest ++ own, p.1 ≠ r1) → (∀ p ∈ rest ++ own, p.1 ≠ b0) → (∀ p ∈ rest ++ own, p.1 ≠ b1) →
      Fr h₀ env.locals h (fun y => if y = Str.ofString "k" then some (.int k t) else if ([Str.ofString "v", Str.ofString "s", Str.ofString "row"] : List Str).contains y then u y else m₀ y) →
      News h₀ env.locals h (LG r0 r1 b0 b1 bk P x0 d0 x1 d1 D e0 e1 ws (listOf (List.toArray us0) n0) (listOf (List.toArray us1) n1) (listOf (List.toArray vs0) n2) (listOf (List.toArray vs1) n3) (rest ++ own)) →
      wpAny (model prog w) A (execs body env) (TPost h₀ env.locals (LG r0 r1 b0 b1 bk P x0 d0 x1 d1 D e0 e1 ws) m₀ (LG r0 r1 b0 b1 bk P x0 d0 x1 d1 D e0 e1 ws (listOf (List.toArray us0) n0) (listOf (List.toArray us1) n1) (listOf (List.toArray vs0) n2) (listOf (List.toArray vs1) n3) (rest ++ own)) rest own (i + 1) { s with heap := h, toks := tk } Q) E { s with heap := h, toks := tk })
    (done : ∀ (m : Str → Option Value) h tk, Fr h₀ env.locals h m → Q .next { s with heap := h, toks := tk }) :
    wpAny (model prog w) A (pyIter (.ref rr)) (fun it s₂ => LoopAtV prog w A h₀ env (Str.ofString "k") body Q E it s₂) E s := by
  refine wpAny_pyIter_range hr (by decide) ?_
  have hsz : Builtin.Range.rangeSize 0 30 1 = ((30 : Nat) : Int) := by decide
  have W : Walks prog w A s.heap.objs.size [s.heap.objs.size] [s.heap.objs.size] 30 (fun i v => i < 30 ∧ ∃ t, v = .int (0 + i * 1) t)
      (fun i h => IsRangeIter h s.heap.objs.size (0 + (i : Nat) * 1) (((30 : Nat) : Int) - (i : Nat)) 1) := (Walks.range hh _ 0 1 30).bound
  refine kdr_loop (J r0 r1 b0 b1 bk P x0 d0 x1 d1 D e0 e1 ws m₀) (news := LG r0 r1 b0 b1 bk P x0 d0 x1 d1 D e0 e1 ws (listOf us0.toArray n0) (listOf us1.toArray n1) (listOf vs0.toArray n2) (listOf vs1.toArray n3) rest) W (fun _ h => h) (fun _ h => h) ?_ ?_ ?_ ?_ (by show IsRangeIter _ _ _ _ _; rw [hsz]; simpa using Heap.get?_push_size _ rfl) (F.push _) (fun p hp => ⟨Heap.get?_push_of_some _ (N p (hin p hp)).1, (N p (hin p hp)).2⟩) ⟨us0, us1, vs0, vs1, n0, n1, n2, n3, ds0, ds1, rest, rfl, hap, hd, fun _ _ _ => rfl⟩ ?_ ?_
  · intro i h hi b hb
    rw [List.mem_singleton.mp hb]
    exact ⟨_, hi⟩
  · intro hm
    exact absurd F.ns.lt ((List.mem_singleton.mp hm) ▸ Nat.lt_irrefl _)
  · intro b hb
    rw [List.mem_singleton.mp hb]
    exact next_is_new F
  · intro p hp hI
    exact absurd (Heap.lt_size (N p (hin p hp)).1) ((List.mem_singleton.mp hI) ▸ Nat.lt_irrefl _)
  · rintro i v m₁ nx h tk own hi ⟨_, t, rfl⟩ hoff ⟨us0, us1, vs0, vs1, n0, n1, n2, n3, ds0, ds1, rest, rfl, hap, hd, hm⟩ F₁ N₁
    have ow : ∀ (r : Addr) (o : Obj), (r, o) ∈ LG r0 r1 b0 b1 bk P x0 d0 x1 d1 D e0 e1 ws (listOf us0.toArray n0) (listOf us1.toArray n1) (listOf vs0.toArray n2) (listOf vs1.toArray n3) rest → (∀ p ∈ rest, p.1 ≠ r) → ∀ p ∈ rest ++ own, p.1 ≠ r := by
      intro r o hr h p hp
      rcases List.mem_append.mp hp with hp | hp
      · exact h p hp
      · exact hoff p hp r (List.mem_map.mpr ⟨_, hr, rfl⟩)
    have e : (fun y => if y = Str.ofString "k" then some (Value.int (0 + (i : Int) * 1) t) else m₁ y) = fun y => if y = Str.ofString "k" then some (Value.int (0 + (i : Int) * 1) t) else if ([Str.ofString "v", Str.ofString "s", Str.ofString "row"] : List Str).contains y then m₁ y else m₀ y := by
      funext y
      by_cases h1 : y = Str.ofString "k"
      · rw [if_pos h1, if_pos h1]
      · rw [if_neg h1, if_neg h1]
        by_cases h2 : ([Str.ofString "v", Str.ofString "s", Str.ofString "row"] : List Str).contains y = true
        · rw [if_pos h2]
        · rw [if_neg h2]
          exact hm y h1 (by simpa using h2)
    rw [e] at F₁
    refine wpAny_mono (turn i _ t m₁ h tk rest own us0 us1 vs0 vs1 n0 n1 n2 n3 ds0 ds1 (by omega) (by omega) hi hd
      (ow r0 _ (.head _) hap.r0) (ow r1 _ (.tail _ (.head _)) hap.r1) (ow b0 _ (.tail _ (.tail _ (.head _))) hap.b0) (ow b1 _ (.tail _ (.tail _ (.tail _ (.head _)))) hap.b1) F₁ N₁) (fun f s₂ p => ?_) fun _ _ e => e
    cases f with
    | ret v => exact p
    | brk => exact p
    | next => exact tpost_inv hoff hap p
    | cont => exact tpost_inv hoff hap p
  · rintro m₁ nx h tk _ F₁ _
    exact done m₁ h tk F₁
end
end

/-! part LT -/
section
structure Ch (r0 r1 b0 b1 bk P x0 d0 x1 d1 D : Nat) : Prop where
  c1 : D < d0
  c2 : d0 < x0
  c3 : x0 < r0
  c4 : r0 < d1
  c5 : d1 < x1
  c6 : x1 < r1
  c7 : r1 < P
  c8 : P < b0
  c9 : b0 < b1
  c10 : b1 < bk
abbrev rowsAt (kh : Int) (kt : Tok) (r : Addr) : DictEntry := ⟨kh, .str (Str.ofString "rows") kt, .ref r⟩
section
variable {rest : List (Addr × Obj)} {us0 us1 vs0 vs1 : List Value} {ds0 ds1 : List Dat} {i : Nat} {x y : Addr} {tx ty : Obj} {dd : Dat}
theorem sub_two {p q : Addr × Obj} : ∀ o ∈ rest, o ∈ p :: q :: rest := fun _ h => .tail _ (.tail _ h)
theorem Dt.step0 (h : Dt rest us0 us1 vs0 vs1 ds0 ds1 i) (ok : kqdOk 8 dd = true) (hx : ∀ L9, (x, tx) ∈ L9 → DatIn L9 (.ref x) dd) (hy : ∀ L9, (y, ty) ∈ L9 → DatIn L9 (.ref y) dd) :
    Dt ((x, tx) :: (y, ty) :: rest) (us0 ++ [Value.ref x]) us1 (vs0 ++ [Value.ref y]) vs1 (ds0 ++ [dd]) ds1 (i + 1) where
  a0 := (h.a0.mono sub_two).append (DatAll.one (hx _ (.head _)))
  a1 := h.a1.mono sub_two
  c0 := (h.c0.mono sub_two).append (DatAll.one (hy _ (.tail _ (.head _))))
  c1 := h.c1.mono sub_two
  k0 := fun d hd => (List.mem_append.mp hd).elim (h.k0 d) fun e => by rw [List.mem_singleton.mp e]; exact ok
  k1 := h.k1
  l0 := by have := h.l0; rw [List.length_append, List.length_singleton]; omega
  l1 := by have := h.l1; omega
theorem Dt.step1 (h : Dt rest us0 us1 vs0 vs1 ds0 ds1 i) (ok : kqdOk 8 dd = true) (hx : ∀ L9, (x, tx) ∈ L9 → DatIn L9 (.ref x) dd) (hy : ∀ L9, (y, ty) ∈ L9 → DatIn L9 (.ref y) dd) :
    Dt ((x, tx) :: (y, ty) :: rest) us0 (us1 ++ [Value.ref x]) vs0 (vs1 ++ [Value.ref y]) ds0 (ds1 ++ [dd]) (i + 1) where
  a0 := h.a0.mono sub_two
  a1 := (h.a1.mono sub_two).append (DatAll.one (hx _ (.head _)))
  c0 := h.c0.mono sub_two
  c1 := (h.c1.mono sub_two).append (DatAll.one (hy _ (.tail _ (.head _))))
  k0 := h.k0
  k1 := fun d hd => (List.mem_append.mp hd).elim (h.k1 d) fun e => by rw [List.mem_singleton.mp e]; exact ok
  l0 := by have := h.l0; omega
  l1 := by have := h.l1; rw [List.length_append, List.length_singleton]; omega
end
section
variable {prog : Program} {w : World} {p : Program} {loose : List Str} {mean : ExcName → Option Value} {mg mb : Str → Option Value}
  {dp un : Nat} {gd : Option (List Code)} {cn : Str} {cs : Scope} {a : Addr} {ccd : Value} {cl : List (Str × Addr)} {outer : List Env} {A₀ : Around} {base h₀ : Heap} {L : Addr} {m : Str → Option Value} {s : Shared}
  {r0 r1 b0 b1 bk P x0 d0 x1 d1 D : Addr} {e0 e1 : DictEntry} {kh : Int} {kt : Tok} {ws us0 us1 vs0 vs1 : List Value} {n0 n1 n2 n3 : Nat} {o0 o1 o2 o3 : Obj} {rest own : List (Addr × Obj)} {ds0 ds1 : List Dat} {i : Nat}
  {v k : Int} {t1 t2 : Tok} {A : Around} {Q E : Value → Shared → Prop}
theorem num_at {news : List (Addr × Obj)} {vs : List Value} {ns : List Int} {c : Nat} {t : Tok}
    (B : Below A₀ base outer h₀) (F : Fr h₀ L s.heap m) (X : (hd.heap_39 w.params).In h₀) (N : News h₀ L s.heap news) (hm : (D, listOf vs.toArray c) ∈ news) (T : Top p loose mean mg mb h₀) (hk : cs.kind = .function)
    (hdp : dp + 8 < recursionLimit) (hun : un + 64 < cLine)
    (hI : IntsAre vs ns) (hlen : ns.length ≤ 24) (h0 : 0 ≤ k) (h1 : k < 30)
    (hret : ∀ v t h' tk', 0 ≤ v → v < 1000003 → Fr h₀ L h' m → News h₀ L h' news → Q (.int v t) { s with heap := h', toks := tk' }) :
    wpAny (model prog w) (ktrTop dp un gd cn cs L a ccd cl outer) (call (.ref 419) [.ref D, .int k t]) Q E s :=
  num_tells (news := news) B F X (fun p hp => (List.mem_cons.mp hp).elim (fun e => N p (by rw [e]; exact hm)) (N p)) T hk hdp hun hI hlen h0 h1 fun v t h' tk' q0 q1 F' N' => hret v t h' tk' q0 q1 F' fun p hp => N' p (.tail _ hp)

theorem row_dat {x : Addr} {w1 w2 w3 : Str} {u1 u2 u3 : Tok} : ∀ L9, (x, tupOf [.str w1 u1, .str w2 u2, .str w3 u3]) ∈ L9 → DatIn L9 (.ref x) (.tuple [.str w1, .str w2, .str w3]) :=
  fun _ hm => .tuple (vs := [.str w1 u1, .str w2 u2, .str w3 u3]) hm (.cons (.str _ _) (.cons (.str _ _) (.cons (.str _ _) .nil)))

theorem deed0 (B : Below A₀ base outer h₀) (F : Fr h₀ L s.heap m) (X : (hd.heap_39 w.params).In h₀)
    (N : News h₀ L s.heap (LG r0 r1 b0 b1 bk P x0 d0 x1 d1 D (rowsAt kh kt r0) e1 ws (listOf us0.toArray n0) o1 o2 o3 rest)) (T : Top p loose mean mg mb h₀) (hk : cs.kind = .function)
    (hdp : dp + 20 < recursionLimit) (hun : un + 200 < cLine) (hC : Ch r0 r1 b0 b1 bk P x0 d0 x1 d1 D) (hr : ∀ p ∈ rest, p.1 ≠ r0) (hb : ∀ p ∈ rest, p.1 ≠ b0) (hus : us0.length ≤ 40)
    (hv0 : 0 ≤ v) (hv1 : v < 1000003) (hk0 : 0 ≤ k) (hk1 : k < 30)
    (hret : ∀ x y tx ty dd n' h' tk', kqdOk 8 dd = true → (∀ L9, (x, tx) ∈ L9 → DatIn L9 (.ref x) dd) → (∀ L9, (y, ty) ∈ L9 → DatIn L9 (.ref y) dd) → Fr h₀ L h' m →
      News h₀ L h' (LG r0 r1 b0 b1 bk P x0 d0 x1 d1 D (rowsAt kh kt r0) e1 ws (listOf (us0 ++ [Value.ref x]).toArray n') o1 o2 o3 ((x, tx) :: (y, ty) :: rest)) →
      (∀ q ∈ LG r0 r1 b0 b1 bk P x0 d0 x1 d1 D (rowsAt kh kt r0) e1 ws (listOf us0.toArray n0) o1 o2 o3 rest, @LT.lt Nat _ q.1 x) → @LT.lt Nat _ x y → (∀ p ∈ (x, tx) :: (y, ty) :: rest, p.1 ≠ b0) → Q (.ref y) { s with heap := h', toks := tk' }) :
    wpAny (model prog w) (ktrTop dp un gd cn cs L a ccd cl outer) (call (.ref 433) [.ref x0, .int v t1, .int k t2]) Q E s := by
  have c1 := hC.c1
  have c2 := hC.c2
  have c3 := hC.c3
  have c4 := hC.c4
  have c5 := hC.c5
  have c6 := hC.c6
  have c7 := hC.c7
  have c8 := hC.c8
  have c9 := hC.c9
  have c10 := hC.c10
  refine deed_tells (r := r0) (told := x0) (d := d0) (us := us0) (cr := n0) (kh := kh) (kt := kt) (news := (r1, o1) :: (b0, o2) :: (b1, o3) :: (bk, listOf #[Value.ref b0, Value.ref b1] 0) :: (P, listOf #[Value.ref x0, Value.ref x1] 0) :: (x1, instObj 94 d1) :: (d1, dictOf [e1] 1) :: (D, listOf ws.toArray 0) :: rest) B F X
    (fun p hp => N p ?_) T hk hdp hun (Nat.ne_of_lt c3) (Nat.ne_of_lt (Nat.lt_trans c2 c3)) ?_ hus hv0 hv1 hk0 hk1 ?_
  · simp only [List.mem_cons] at hp ⊢
    rcases hp with h | h | h | h | h | h | h | h | h | h | h | h <;> simp [h]
  · intro p hp
    simp only [List.mem_cons] at hp
    rcases hp with h | h | h | h | h | h | h | h | h
    · subst h; exact Nat.ne_of_gt (by omega)
    · subst h; exact Nat.ne_of_gt (by omega)
    · subst h; exact Nat.ne_of_gt (by omega)
    · subst h; exact Nat.ne_of_gt (by omega)
    · subst h; exact Nat.ne_of_gt (by omega)
    · subst h; exact Nat.ne_of_gt (by omega)
    · subst h; exact Nat.ne_of_gt (by omega)
    · subst h; exact Nat.ne_of_lt (by omega)
    · exact hr p h
  · intro x y w1 w2 w3 u1 u2 u3 u4 u5 u6 c' h' tk' k1 k2 k3 F' N' l1 l2
    refine hret x y (tupOf [.str w1 u1, .str w2 u2, .str w3 u3]) (tupOf [.str w1 u4, .str w2 u5, .str w3 u6]) (.tuple [.str w1, .str w2, .str w3]) c' h' tk' (by simp [kqdOk, k1, k2, k3]) row_dat row_dat F' (fun p hp => N' p ?_) (fun q hq => l1 q ?_) l2 ?_
    · simp only [List.mem_cons] at hp ⊢
      rcases hp with h | h | h | h | h | h | h | h | h | h | h | h | h | h <;> simp [h]
    · simp only [List.mem_cons] at hq ⊢
      rcases hq with h | h | h | h | h | h | h | h | h | h | h | h <;> simp [h]
    · have lb : @LT.lt Nat _ b0 x := l1 (b0, o2) (by simp)
      intro p hp
      rcases List.mem_cons.mp hp with rfl | hp
      · exact Nat.ne_of_gt lb
      · rcases List.mem_cons.mp hp with rfl | hp
        · exact Nat.ne_of_gt (Nat.lt_trans lb l2)
        · exact hb p hp

theorem deed1 (B : Below A₀ base outer h₀) (F : Fr h₀ L s.heap m) (X : (hd.heap_39 w.params).In h₀)
    (N : News h₀ L s.heap (LG r0 r1 b0 b1 bk P x0 d0 x1 d1 D e0 (rowsAt kh kt r1) ws o0 (listOf us1.toArray n1) o2 o3 rest)) (T : Top p loose mean mg mb h₀) (hk : cs.kind = .function)
    (hdp : dp + 20 < recursionLimit) (hun : un + 200 < cLine) (hC : Ch r0 r1 b0 b1 bk P x0 d0 x1 d1 D) (hr : ∀ p ∈ rest, p.1 ≠ r1) (hb : ∀ p ∈ rest, p.1 ≠ b1) (hus : us1.length ≤ 40)
    (hv0 : 0 ≤ v) (hv1 : v < 1000003) (hk0 : 0 ≤ k) (hk1 : k < 30)
    (hret : ∀ x y tx ty dd n' h' tk', kqdOk 8 dd = true → (∀ L9, (x, tx) ∈ L9 → DatIn L9 (.ref x) dd) → (∀ L9, (y, ty) ∈ L9 → DatIn L9 (.ref y) dd) → Fr h₀ L h' m →
      News h₀ L h' (LG r0 r1 b0 b1 bk P x0 d0 x1 d1 D e0 (rowsAt kh kt r1) ws o0 (listOf (us1 ++ [Value.ref x]).toArray n') o2 o3 ((x, tx) :: (y, ty) :: rest)) →
      (∀ q ∈ LG r0 r1 b0 b1 bk P x0 d0 x1 d1 D e0 (rowsAt kh kt r1) ws o0 (listOf us1.toArray n1) o2 o3 rest, @LT.lt Nat _ q.1 x) → @LT.lt Nat _ x y → (∀ p ∈ (x, tx) :: (y, ty) :: rest, p.1 ≠ b1) → Q (.ref y) { s with heap := h', toks := tk' }) :
    wpAny (model prog w) (ktrTop dp un gd cn cs L a ccd cl outer) (call (.ref 433) [.ref x1, .int v t1, .int k t2]) Q E s := by
  have c1 := hC.c1
  have c2 := hC.c2
  have c3 := hC.c3
  have c4 := hC.c4
  have c5 := hC.c5
  have c6 := hC.c6
  have c7 := hC.c7
  have c8 := hC.c8
  have c9 := hC.c9
  have c10 := hC.c10
  refine deed_tells (r := r1) (told := x1) (d := d1) (us := us1) (cr := n1) (kh := kh) (kt := kt) (news := (r0, o0) :: (b0, o2) :: (b1, o3) :: (bk, listOf #[Value.ref b0, Value.ref b1] 0) :: (P, listOf #[Value.ref x0, Value.ref x1] 0) :: (x0, instObj 94 d0) :: (d0, dictOf [e0] 1) :: (D, listOf ws.toArray 0) :: rest) B F X
    (fun p hp => N p ?_) T hk hdp hun (Nat.ne_of_lt c6) (Nat.ne_of_lt (Nat.lt_trans c5 c6)) ?_ hus hv0 hv1 hk0 hk1 ?_
  · simp only [List.mem_cons] at hp ⊢
    rcases hp with h | h | h | h | h | h | h | h | h | h | h | h <;> simp [h]
  · intro p hp
    simp only [List.mem_cons] at hp
    rcases hp with h | h | h | h | h | h | h | h | h
    · subst h; exact Nat.ne_of_lt (by omega)
    · subst h; exact Nat.ne_of_gt (by omega)
    · subst h; exact Nat.ne_of_gt (by omega)
    · subst h; exact Nat.ne_of_gt (by omega)
    · subst h; exact Nat.ne_of_gt (by omega)
    · subst h; exact Nat.ne_of_lt (by omega)
    · subst h; exact Nat.ne_of_lt (by omega)
    · subst h; exact Nat.ne_of_lt (by omega)
    · exact hr p h
  · intro x y w1 w2 w3 u1 u2 u3 u4 u5 u6 c' h' tk' k1 k2 k3 F' N' l1 l2
    refine hret x y (tupOf [.str w1 u1, .str w2 u2, .str w3 u3]) (tupOf [.str w1 u4, .str w2 u5, .str w3 u6]) (.tuple [.str w1, .str w2, .str w3]) c' h' tk' (by simp [kqdOk, k1, k2, k3]) row_dat row_dat F' (fun p hp => N' p ?_) (fun q hq => l1 q ?_) l2 ?_
    · simp only [List.mem_cons] at hp ⊢
      rcases hp with h | h | h | h | h | h | h | h | h | h | h | h | h | h <;> simp [h]
    · simp only [List.mem_cons] at hq ⊢
      rcases hq with h | h | h | h | h | h | h | h | h | h | h | h <;> simp [h]
    · have lb : @LT.lt Nat _ b1 x := l1 (b1, o3) (by simp)
      intro p hp
      rcases List.mem_cons.mp hp with rfl | hp
      · exact Nat.ne_of_gt lb
      · rcases List.mem_cons.mp hp with rfl | hp
        · exact Nat.ne_of_gt (Nat.lt_trans lb l2)
        · exact hb p hp

theorem app0 {y : Value} (F : Fr h₀ L s.heap m) (N : News h₀ L s.heap (LG r0 r1 b0 b1 bk P x0 d0 x1 d1 D e0 e1 ws o0 o1 (listOf vs0.toArray n2) o3 rest)) (hC : Ch r0 r1 b0 b1 bk P x0 d0 x1 d1 D) (hr : ∀ p ∈ rest, p.1 ≠ b0) (hz : vs0.length ≤ 40)
    (h : ∀ h', Fr h₀ L h' m → News h₀ L h' (LG r0 r1 b0 b1 bk P x0 d0 x1 d1 D e0 e1 ws o0 o1 (listOf (vs0 ++ [y]).toArray (n2 + 1)) o3 rest) → Q .none { s with heap := h' }) :
    wpAny (model prog w) A (call (.builtin "list.append") [.ref b0, y]) Q E s := by
  have c1 := hC.c1
  have c2 := hC.c2
  have c3 := hC.c3
  have c4 := hC.c4
  have c5 := hC.c5
  have c6 := hC.c6
  have c7 := hC.c7
  have c8 := hC.c8
  have c9 := hC.c9
  have c10 := hC.c10
  refine append_K F N (.tail (Nat.ne_of_lt (by omega)) (.tail (Nat.ne_of_lt (by omega)) (.head fun p hp => ?_))) (fun h' F' N' => h h' F' (by rw [List.push_toArray] at N'; exact N')) (by rw [List.size_toArray, sizeLine_eq]; omega)
  simp only [List.mem_cons] at hp
  rcases hp with h | h | h | h | h | h | h | h | h
  · subst h; exact Nat.ne_of_gt (by omega)
  · subst h; exact Nat.ne_of_gt (by omega)
  · subst h; exact Nat.ne_of_lt (by omega)
  · subst h; exact Nat.ne_of_lt (by omega)
  · subst h; exact Nat.ne_of_lt (by omega)
  · subst h; exact Nat.ne_of_lt (by omega)
  · subst h; exact Nat.ne_of_lt (by omega)
  · subst h; exact Nat.ne_of_lt (by omega)
  · exact hr p h

theorem app1 {y : Value} (F : Fr h₀ L s.heap m) (N : News h₀ L s.heap (LG r0 r1 b0 b1 bk P x0 d0 x1 d1 D e0 e1 ws o0 o1 o2 (listOf vs1.toArray n3) rest)) (hC : Ch r0 r1 b0 b1 bk P x0 d0 x1 d1 D) (hr : ∀ p ∈ rest, p.1 ≠ b1) (hz : vs1.length ≤ 40)
    (h : ∀ h', Fr h₀ L h' m → News h₀ L h' (LG r0 r1 b0 b1 bk P x0 d0 x1 d1 D e0 e1 ws o0 o1 o2 (listOf (vs1 ++ [y]).toArray (n3 + 1)) rest) → Q .none { s with heap := h' }) :
    wpAny (model prog w) A (call (.builtin "list.append") [.ref b1, y]) Q E s := by
  have c1 := hC.c1
  have c2 := hC.c2
  have c3 := hC.c3
  have c4 := hC.c4
  have c5 := hC.c5
  have c6 := hC.c6
  have c7 := hC.c7
  have c8 := hC.c8
  have c9 := hC.c9
  have c10 := hC.c10
  refine append_K F N (.tail (Nat.ne_of_lt (by omega)) (.tail (Nat.ne_of_lt (by omega)) (.tail (Nat.ne_of_lt (by omega)) (.head fun p hp => ?_)))) (fun h' F' N' => h h' F' (by rw [List.push_toArray] at N'; exact N')) (by rw [List.size_toArray, sizeLine_eq]; omega)
  simp only [List.mem_cons] at hp
  rcases hp with h | h | h | h | h | h | h | h
  · subst h; exact Nat.ne_of_gt (by omega)
  · subst h; exact Nat.ne_of_lt (by omega)
  · subst h; exact Nat.ne_of_lt (by omega)
  · subst h; exact Nat.ne_of_lt (by omega)
  · subst h; exact Nat.ne_of_lt (by omega)
  · subst h; exact Nat.ne_of_lt (by omega)
  · subst h; exact Nat.ne_of_lt (by omega)
  · exact hr p h

theorem neq0 (hD : Dt rest us0 us1 vs0 vs1 ds0 ds1 i) (N : News h₀ L s.heap (LG r0 r1 b0 b1 bk P x0 d0 x1 d1 D e0 e1 ws (listOf us0.toArray n0) o1 (listOf vs0.toArray n2) o3 (rest ++ own))) (hu : A.units + 64 < cLine) (h : Q (.bool false) s) :
    wpAny (model prog w) A (compareOp .NotEq (.ref r0) (.ref b0)) Q E s := by
  have sub : ∀ p ∈ rest, p ∈ LG r0 r1 b0 b1 bk P x0 d0 x1 d1 D e0 e1 ws (listOf us0.toArray n0) o1 (listOf vs0.toArray n2) o3 (rest ++ own) := fun p hp => by simp [LG, hp]
  refine kqd_ne N (oa := listOf us0.toArray n0) (ob := listOf vs0.toArray n2) (by simp [LG]) rfl rfl hD.a0 sub (by simp [LG]) rfl rfl hD.c0 sub hD.k0 hD.k0 hu ?_
  simpa using h
theorem neq1 (hD : Dt rest us0 us1 vs0 vs1 ds0 ds1 i) (N : News h₀ L s.heap (LG r0 r1 b0 b1 bk P x0 d0 x1 d1 D e0 e1 ws o0 (listOf us1.toArray n1) o2 (listOf vs1.toArray n3) (rest ++ own))) (hu : A.units + 64 < cLine) (h : Q (.bool false) s) :
    wpAny (model prog w) A (compareOp .NotEq (.ref r1) (.ref b1)) Q E s := by
  have sub : ∀ p ∈ rest, p ∈ LG r0 r1 b0 b1 bk P x0 d0 x1 d1 D e0 e1 ws o0 (listOf us1.toArray n1) o2 (listOf vs1.toArray n3) (rest ++ own) := fun p hp => by simp [LG, hp]
  refine kqd_ne N (oa := listOf us1.toArray n1) (ob := listOf vs1.toArray n3) (by simp [LG]) rfl rfl hD.a1 sub (by simp [LG]) rfl rfl hD.c1 sub hD.k1 hD.k1 hu ?_
  simpa using h
theorem sub2_0 {l : Addr} {value slice : PySem.Expr} {news : List (Addr × Obj)} {v0 v1 : Value} {n : Nat} {u : Tok} (N : News h₀ L s.heap news) (hm : (l, listOf #[v0, v1] n) ∈ news)
    (e : k = 0) (q : Q v0 s)
    (hs : subscripted slice false (.ref l) (.int k u) = operate [.ref l, .int k u] (getItem (.ref l) (.int k u)) := by with_unfolding_all rfl) :
    wpAny (model prog w) A (subscriptTail value slice (.ref l) (.int k u)) Q E s := sub_at N hm e (by decide) (by decide) rfl q hs
theorem sub2_1 {l : Addr} {value slice : PySem.Expr} {news : List (Addr × Obj)} {v0 v1 : Value} {n : Nat} {u : Tok} (N : News h₀ L s.heap news) (hm : (l, listOf #[v0, v1] n) ∈ news)
    (e : k = 1) (q : Q v1 s)
    (hs : subscripted slice false (.ref l) (.int k u) = operate [.ref l, .int k u] (getItem (.ref l) (.int k u)) := by with_unfolding_all rfl) :
    wpAny (model prog w) A (subscriptTail value slice (.ref l) (.int k u)) Q E s := sub_at N hm e (by decide) (by decide) rfl q hs
theorem sub2 {l : Addr} {value slice : PySem.Expr} {news : List (Addr × Obj)} {v0 v1 : Value} {n : Nat} {u : Tok} (N : News h₀ L s.heap news) (hm : (l, listOf #[v0, v1] n) ∈ news)
    (h0 : 0 ≤ k) (h1 : k < 2) (q0 : k = 0 → Q v0 s) (q1 : k = 1 → Q v1 s)
    (hs : subscripted slice false (.ref l) (.int k u) = operate [.ref l, .int k u] (getItem (.ref l) (.int k u)) := by with_unfolding_all rfl) :
    wpAny (model prog w) A (subscriptTail value slice (.ref l) (.int k u)) Q E s := by
  have hl : s.heap.IsList l #[v0, v1] := ⟨_, (N _ hm).1, rfl, n, rfl⟩
  refine tail_any hl.typeIs slot_list_getitem.lookup ?_ hs
  have hk : k = 0 ∨ k = 1 := by omega
  rcases hk with e | e
  · exact wpAny_getItem_list (x := v0) hl h0 (by omega) (by subst e; rfl) (q0 e)
  · exact wpAny_getItem_list (x := v1) hl h0 (by omega) (by subst e; rfl) (q1 e)
end
section
variable {prog : Program} {w : World} {A : Around} {E : Value → Shared → Prop} {s : Shared} {env : Env} {h₀ : Heap} {body : List Stmt} {Q : Flow → Shared → Prop}
/-- the loop as the call comes to it -/
theorem loop_main {r0 r1 b0 b1 bk P x0 d0 x1 d1 D rr T1 T2 : Addr} {kh0 kh1 : Int} {kt0 kt1 : Tok} {ws : List Value} {m₀ : Str → Option Value} {q1 q2 q3 q4 : Addr × Obj} {t₀ u₀ v₀ u1 u2 u3 u4 u5 u6 : Tok}
    (hh : A.handled = none) (hr : IsRange s.heap rr 0 30 1 t₀ u₀ v₀) (F : Fr h₀ env.locals s.heap m₀)
    (N : News h₀ env.locals s.heap [(bk, listOf #[Value.ref b0, Value.ref b1] 0), (b1, listOf #[] 0), (b0, listOf #[Value.ref T2] 0),
      (T2, { cls := .type "tuple", data := .seq #[.str (Str.ofString "failure") u4, .str (Str.ofString "t") u5, .str (Str.ofString "TaskError") u6] }),
      (T1, { cls := .type "tuple", data := .seq #[.str (Str.ofString "failure") u1, .str (Str.ofString "t") u2, .str (Str.ofString "TaskError") u3] }), q1, q2, q3, q4,
      (P, listOf #[Value.ref x0, Value.ref x1] 0), (r1, listOf #[] 0), (x1, instObj 94 d1), (d1, dictOf [rowsAt kh1 kt1 r1] 1), (r0, listOf (#[].push (Value.ref T1)) (0 + 1)), (x0, instObj 94 d0), (d0, dictOf [rowsAt kh0 kt0 r0] 1), (D, listOf ws.toArray 0)])
    (hCT : Ch r0 r1 b0 b1 bk P x0 d0 x1 d1 D ∧ @LT.lt Nat _ P T1 ∧ @LT.lt Nat _ T1 T2 ∧ @LT.lt Nat _ T2 b0)
    (turn : Ch r0 r1 b0 b1 bk P x0 d0 x1 d1 D → ∀ (i : Nat) (k : Int) t (u : Str → Option Value) h tk rest own us0 us1 vs0 vs1 n0 n1 n2 n3 ds0 ds1, 0 ≤ k → k < 30 → i < 30 → Dt rest us0 us1 vs0 vs1 ds0 ds1 i →
      us0.length ≤ 40 → us1.length ≤ 40 → vs0.length ≤ 40 → vs1.length ≤ 40 → (∀ p ∈ rest ++ own, p.1 ≠ r0) → (∀ p ∈ rest ++ own, p.1 ≠ r1) → (∀ p ∈ rest ++ own, p.1 ≠ b0) → (∀ p ∈ rest ++ own, p.1 ≠ b1) →
      Fr h₀ env.locals h (fun y => if y = Str.ofString "k" then some (.int k t) else if ([Str.ofString "v", Str.ofString "s", Str.ofString "row"] : List Str).contains y then u y else m₀ y) →
      News h₀ env.locals h (LG r0 r1 b0 b1 bk P x0 d0 x1 d1 D (rowsAt kh0 kt0 r0) (rowsAt kh1 kt1 r1) ws (listOf (List.toArray us0) n0) (listOf (List.toArray us1) n1) (listOf (List.toArray vs0) n2) (listOf (List.toArray vs1) n3) (rest ++ own)) →
      wpAny (model prog w) A (execs body env) (TPost h₀ env.locals (LG r0 r1 b0 b1 bk P x0 d0 x1 d1 D (rowsAt kh0 kt0 r0) (rowsAt kh1 kt1 r1) ws) m₀ (LG r0 r1 b0 b1 bk P x0 d0 x1 d1 D (rowsAt kh0 kt0 r0) (rowsAt kh1 kt1 r1) ws (listOf (List.toArray us0) n0) (listOf (List.toArray us1) n1) (listOf (List.toArray vs0) n2) (listOf (List.toArray vs1) n3) (rest ++ own)) rest own (i + 1) { s with heap := h, toks := tk } Q) E { s with heap := h, toks := tk })
    (done : ∀ (m : Str → Option Value) h tk, Fr h₀ env.locals h m → News h₀ env.locals h [] → Q .next { s with heap := h, toks := tk }) :
    wpAny (model prog w) A (pyIter (.ref rr)) (fun it s₂ => LoopAtV prog w A h₀ env (Str.ofString "k") body Q E it s₂) E s := by
  obtain ⟨hC, hT1, hT2, hT3⟩ := hCT
  have c1 := hC.c1
  have c2 := hC.c2
  have c3 := hC.c3
  have c4 := hC.c4
  have c5 := hC.c5
  have c6 := hC.c6
  have c7 := hC.c7
  have c8 := hC.c8
  have c9 := hC.c9
  have c10 := hC.c10
  have ok : kqdOk 8 (.tuple [.str (Str.ofString "failure"), .str (Str.ofString "t"), .str (Str.ofString "TaskError")]) = true := by decide +kernel
  have two : ∀ r : Addr, @Ne Nat T1 r → @Ne Nat T2 r → ∀ p ∈ ([(T1, tupOf [.str (Str.ofString "failure") u1, .str (Str.ofString "t") u2, .str (Str.ofString "TaskError") u3]), (T2, tupOf [.str (Str.ofString "failure") u4, .str (Str.ofString "t") u5, .str (Str.ofString "TaskError") u6])] : List (Addr × Obj)), p.1 ≠ r := by
    intro r h1 h2 p hp
    rcases List.mem_cons.mp hp with rfl | hp
    · exact h1
    · rw [List.mem_singleton.mp hp]; exact h2
  refine loop30 (us0 := [Value.ref T1]) (us1 := []) (vs0 := [Value.ref T2]) (vs1 := []) (n0 := 0 + 1) (n1 := 0) (n2 := 0) (n3 := 0) (ds0 := [.tuple [.str (Str.ofString "failure"), .str (Str.ofString "t"), .str (Str.ofString "TaskError")]]) (ds1 := [])
    (rest := [(T1, tupOf [.str (Str.ofString "failure") u1, .str (Str.ofString "t") u2, .str (Str.ofString "TaskError") u3]), (T2, tupOf [.str (Str.ofString "failure") u4, .str (Str.ofString "t") u5, .str (Str.ofString "TaskError") u6])]) hh hr F N
    (fun p hp => ?_) ⟨two r0 (Nat.ne_of_gt (by omega)) (Nat.ne_of_gt (by omega)), two r1 (Nat.ne_of_gt (by omega)) (Nat.ne_of_gt (by omega)), two b0 (Nat.ne_of_lt (by omega)) (Nat.ne_of_lt (by omega)), two b1 (Nat.ne_of_lt (by omega)) (Nat.ne_of_lt (by omega))⟩
    ⟨.one (row_dat _ (.head _)), .nil, .one (row_dat _ (.tail _ (.head _))), .nil, fun d hd => by rw [List.mem_singleton.mp hd]; exact ok, fun d hd => (nomatch hd), by simp, by simp⟩
    (fun i k t u h tk rest own us0 us1 vs0 vs1 n0 n1 n2 n3 ds0 ds1 h0 h1 h2 hd a0 a1 a2 a3 F' N' => turn hC i k t u h tk rest own us0 us1 vs0 vs1 n0 n1 n2 n3 ds0 ds1 h0 h1 h2 hd
      (by have e := hd.a0.length; have l := hd.l0; omega) (by have e := hd.a1.length; have l := hd.l1; omega) (by have e := hd.c0.length; have l := hd.l0; omega) (by have e := hd.c1.length; have l := hd.l1; omega) a0 a1 a2 a3 F' N')
    (fun m h tk F' => done m h tk F' News.nil)
  simp only [LG, List.mem_cons, List.not_mem_nil, or_false] at hp ⊢
  rcases hp with h | h | h | h | h | h | h | h | h | h | h | h | h <;> simp [h]
theorem TEnd.intro {L : Addr} {G : Obj → Obj → Obj → Obj → List (Addr × Obj) → List (Addr × Obj)} {m₀ m' : Str → Option Value} {before rest own : List (Addr × Obj)} {i : Nat} {s₁ : Shared} {h' : Heap} {tk' : Nat} {us0 us1 vs0 vs1 : List Value} {n0 n1 n2 n3 : Nat} {ds0 ds1 : List Dat} {x y : Addr} {tx ty : Obj}
    (hd : Dt ((x, tx) :: (y, ty) :: rest) us0 us1 vs0 vs1 ds0 ds1 i) (F : Fr h₀ L h' m') (N : News h₀ L h' (G (listOf us0.toArray n0) (listOf us1.toArray n1) (listOf vs0.toArray n2) (listOf vs1.toArray n3) ((x, tx) :: (y, ty) :: (rest ++ own))))
    (hlt : ∀ q ∈ before, @LT.lt Nat _ q.1 x) (hxy : @LT.lt Nat _ x y) (hm : FrOff m₀ m') : TEnd h₀ L G m₀ before rest own i s₁ { s₁ with heap := h', toks := tk' } :=
  ⟨h', tk', m', us0, us1, vs0, vs1, n0, n1, n2, n3, ds0, ds1, x, tx, y, ty, rfl, F, N, hlt, hxy, hd, hm⟩
theorem froff {m₀ u : Str → Option Value} {a b c d : Option Value} : FrOff m₀ (fun y => if y = Str.ofString "row" then a else if y = Str.ofString "s" then b else if y = Str.ofString "v" then c else if y = Str.ofString "k" then d else if ([Str.ofString "v", Str.ofString "s", Str.ofString "row"] : List Str).contains y then u y else m₀ y) := by
  intro z h1 h2
  have h3 := h2
  simp only [List.contains_cons, List.contains_nil, Bool.or_false, Bool.or_eq_false_iff, beq_eq_false_iff_ne, ne_eq] at h3
  obtain ⟨e1, e2, e3⟩ := h3
  show (if z = Str.ofString "row" then a else if z = Str.ofString "s" then b else if z = Str.ofString "v" then c else if z = Str.ofString "k" then d else if ([Str.ofString "v", Str.ofString "s", Str.ofString "row"] : List Str).contains z then u z else m₀ z) = m₀ z
  rw [if_neg e3, if_neg e2, if_neg e1, if_neg h1, h2]
  rfl
end
end

/-! part WN -/
section
local macro_rules | `(tactic| k_get) => `(tactic| assumption)
def Stop (P : Prop) : Prop := P
theorem stop {P : Prop} (h : Stop P) : P := h
theorem no_t : (occurrences (Str.ofString "t") (Str.ofString "=") 0 (Str.ofString "t").length 1).isEmpty = true := by decide +kernel
local macro_rules | `(tactic| walk_at "call ref") => `(tactic| (k_here; (with_reducible show wpAny _ _ (call (Value.ref 353) [Value.str _ _, Value.none]) _ _ _); k_dflt (refine' task_new ?k1 ?k2 ?k3 ?k4 ?k5 ?k6 ?k7 ?k8 ?k9 ?_; (case k1 => k_asm); (case k2 => k_asm); (case k3 => k_asm); (case k4 => k_asm); (case k5 => k_asm); (case k6 => first | exact rfl | assumption); (case k7 => ktr_room); (case k8 => ktr_units); (case k9 => exact no_t); k_whole); intro x' d' es' n' h' tk' F' N' l1 l2 hg'; (try k_lt l1); (try k_lt2 l2); (try k_sweep)))
local macro_rules | `(tactic| walk_at "call ref") => `(tactic| (k_here; (with_reducible show wpAny _ _ (call (Value.ref 419) [Value.ref _, Value.int _ _]) _ _ _); k_dflt (refine' num_at ?k1 ?k2 ?k3 ?k4 ?k5 ?k6 ?k7 ?k8 ?k9 ?k10 ?k11 ?k12 ?k13 ?_; (case k1 => k_asm); (case k2 => k_asm); (case k3 => k_asm); (case k4 => k_asm); (case k5 => k_mem); (case k6 => k_asm); (case k7 => first | exact rfl | assumption); (case k8 => ktr_room); (case k9 => ktr_units); (case k10 => assumption); (case k11 => rw [List.length_take]; omega); (case k12 => assumption); (case k13 => assumption); k_whole); intro v' t' h' tk' hv0' hv1' F' N'; (try k_sweep)))
local macro_rules | `(tactic| walk_at "call ref") => `(tactic| (k_here; (with_reducible show wpAny _ _ (call (Value.ref 433) [Value.ref _, Value.int _ _, Value.int _ _]) _ _ _); k_dflt (first
  | (refine' deed0 ?k1 ?k2 ?k3 ?k4 ?k5 ?k6 ?k7 ?k8 ?k9 ?k10 ?k11 ?k12 ?k13 ?k14 ?k15 ?k16 ?_; (case k1 => k_asm); (case k2 => k_asm); (case k3 => k_asm); (case k4 => k_asm); (case k5 => k_asm); (case k6 => first | exact rfl | assumption); (case k7 => ktr_room); (case k8 => ktr_units); (case k9 => assumption); (case k10 => assumption); (case k11 => assumption); (case k12 => assumption); (case k13 => assumption); (case k14 => assumption); (case k15 => assumption); (case k16 => assumption); k_whole; intro x' y' tx' ty' dd' n' h' tk' ok' hx' hy' F' N' l1 l2 hb'; (have hD' := Dt.step0 (by assumption) ok' hx' hy'))
  | (refine' deed1 ?k1 ?k2 ?k3 ?k4 ?k5 ?k6 ?k7 ?k8 ?k9 ?k10 ?k11 ?k12 ?k13 ?k14 ?k15 ?k16 ?_; (case k1 => k_asm); (case k2 => k_asm); (case k3 => k_asm); (case k4 => k_asm); (case k5 => k_asm); (case k6 => first | exact rfl | assumption); (case k7 => ktr_room); (case k8 => ktr_units); (case k9 => assumption); (case k10 => assumption); (case k11 => assumption); (case k12 => assumption); (case k13 => assumption); (case k14 => assumption); (case k15 => assumption); (case k16 => assumption); k_whole; intro x' y' tx' ty' dd' n' h' tk' ok' hx' hy' F' N' l1 l2 hb'; (have hD' := Dt.step1 (by assumption) ok' hx' hy'))); (try k_sweep)))
local macro_rules | `(tactic| walk_at "exec For Name Call cons nil") => `(tactic| (k_here; (rename Fr _ _ _ _ => lF'); (with_unfolding_all refine' For_invVF lF' ?k1 ?k2 ?_; (case k1 => exact rfl); (case k2 => exact rfl); k_whole)))
local macro_rules | `(tactic| walk_at "pyIter ref") => `(tactic| (k_here; refine stop ?_))
local macro_rules | `(tactic| walk_at "subscriptTail Name Name ref int") => `(tactic| (k_here; (with_reducible show wpAny _ _ (subscriptTail _ _ (Value.ref _) (Value.int (Int.fmod _ 2) _)) _ _ _); k_dflt (refine' sub2 ?N ?m ?a ?b ?_ ?_ ?i; (case N => k_asm); (case m => k_mem); (case a => exact Int.fmod_nonneg_of_pos _ (by decide)); (case b => exact Int.fmod_lt_of_pos _ (by decide)); (case i => with_unfolding_all rfl)) <;> intro hq'))
local macro_rules | `(tactic| walk_at "subscriptTail Name Name ref int") => `(tactic| (k_here; (with_reducible show wpAny _ _ (subscriptTail _ _ (Value.ref _) (Value.int (Int.fmod _ 2) _)) _ _ _); k_dflt (first
  | (refine' sub2_0 ?zN ?zm ?ze ?_ ?zi; (case zN => k_asm); (case zm => k_mem); (case ze => assumption); (case zi => with_unfolding_all rfl); k_whole)
  | (refine' sub2_1 ?zN ?zm ?ze ?_ ?zi; (case zN => k_asm); (case zm => k_mem); (case ze => assumption); (case zi => with_unfolding_all rfl); k_whole))))
local macro_rules | `(tactic| walk_at "subscriptTail Name Constant ref int") => `(tactic| (k_here; (with_reducible show wpAny _ _ (subscriptTail _ _ (Value.ref _) (Value.int _ _)) _ _ _); k_dflt (first
  | (refine' sub2_0 ?zN ?zm ?ze ?_ ?zi; (case zN => k_asm); (case zm => k_mem); (case ze => exact rfl); (case zi => with_unfolding_all rfl); k_whole)
  | (refine' sub2_1 ?zN ?zm ?ze ?_ ?zi; (case zN => k_asm); (case zm => k_mem); (case ze => exact rfl); (case zi => with_unfolding_all rfl); k_whole))))
local macro_rules | `(tactic| walk_at "call builtin:list.append") => `(tactic| (k_here; (with_reducible show wpAny _ _ (call (Value.builtin _) [Value.ref _, Value.ref _]) _ _ _); k_dflt (first
  | (refine' app0 ?k1 ?k2 ?k3 ?k4 ?k5 ?_; (case k1 => k_asm); (case k2 => k_asm); (case k3 => assumption); (case k4 => assumption); (case k5 => assumption); k_whole)
  | (refine' app1 ?k1 ?k2 ?k3 ?k4 ?k5 ?_; (case k1 => k_asm); (case k2 => k_asm); (case k3 => assumption); (case k4 => assumption); (case k5 => assumption); k_whole)); intro h' F' N'; (try k_sweep)))
local macro_rules | `(tactic| walk_at "compareOp NotEq ref ref") => `(tactic| (k_here; (with_reducible show wpAny _ _ (compareOp CmpOp.NotEq (Value.ref _) (Value.ref _)) _ _ _); k_dflt (first
  | (refine' neq0 ?k1 ?k2 ?k3 ?_; (case k1 => assumption); (case k2 => k_asm); (case k3 => ktr_units); k_whole)
  | (refine' neq1 ?k1 ?k2 ?k3 ?_; (case k1 => assumption); (case k2 => k_asm); (case k3 => ktr_units); k_whole))))
local macro_rules | `(tactic| walk_at "TPost") => `(tactic| (dsimp only [TPost]))
theorem law_holds : PySem.Challenge.rw_aa6014_01.Holds := hd (by
  k_go0
  (all_goals try k_fold)
  k_steps
  unfold Stop
  (with_reducible show wpAny _ _ (pyIter (Value.ref _)) (fun it s₂ => LoopAtV _ _ _ _ _ _ _ _ _ it s₂) _ _)
  (with_unfolding_all refine' loop_main ?k1 ?k2 ?k3 ?k4 ?k5 ?_ ?_)
  case k1 => exact rfl
  case k2 => assumption
  case k3 => k_asm
  case k4 => k_asm
  case k5 =>
    (repeat (rename _ ∧ _ => hAnd; cases hAnd))
    refine ⟨⟨?_, ?_, ?_, ?_, ?_, ?_, ?_, ?_, ?_, ?_⟩, ?_, ?_, ?_⟩ <;> assumption
  rotate_left
  intro m' h' tk' F' N'
  k_sweep
  focus
    k_steps
  (intro hC' i' k' t' u' h' tk' rest' own' us0' us1' vs0' vs1' n0' n1' n2' n3' ds0' ds1' hk0' hk1' hi' hD' hl0' hl1' hl2' hl3' ha0' ha1' ha2' ha3' F' N')
  k_sweep
  k_steps
  all_goals (refine' TEnd.intro ?zd ?zF ?zN ?zl ?zx ?zm; (case zd => assumption); (case zF => k_asm); (case zN => k_asm); (case zl => assumption); (case zx => assumption); (case zm => exact froff)))
end

end Mine
theorem PySem.Challenge.cw_aa6014_01_holds : PySem.Challenge.rw_aa6014_01.Holds := by
  exact Mine.law_holds
