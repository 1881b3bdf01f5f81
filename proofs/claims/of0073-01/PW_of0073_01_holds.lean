import PyProof.Rows.All
import Wide.All
import OpenK.AllK
import Wide.FinOn
import PySem.Challenge.RW_of0073_01
set_option autoImplicit false
set_option Elab.async false
set_option maxRecDepth 100000
set_option maxHeartbeats 8000000
set_option rowWalk.seconds 0
set_option compiler.extract_closed false
set_option linter.all false
namespace Mine
open PySem PySem.W PyProof.Rows PySem.Calls PyProof.Rows.LCg PyProof.Rows.LCt PyProof.V PySem.Spec
local macro_rules | `(tactic| walk_at "mine lt") => `(tactic| k_extra "mlt")
local macro_rules | `(tactic| walk_at "mine pure1") => `(tactic| (intro FG' F' N' B' X' T' kG'; (try dsimp only); (try k_lift B'); (try k_fold)))
local macro_rules | `(tactic| walk_at "mine more1") => `(tactic| (intro l1 lo' hs' fs' FG' F' N' B' X' T'; (have l2 := l1); (try k_lt l1); (try dsimp only); (try k_lift B'); (try k_fold)))
local macro_rules | `(tactic| walk_at "mine cells1") => `(tactic| (intro cells' FG' F' N' Y' B' X' T' l1 kG'; (have l2 := l1); (try k_lt l1); k_cells Y'; (try simp only [List.cons_append, List.nil_append] at N'); (try dsimp only); (try k_lift B'); (try k_fold)))
local macro_rules | `(tactic| walk_at "mine s0") => `(tactic| (intro v' h' tk' F' N' hP'; (obtain ⟨_, hv'⟩ := hP'); (unfold $(Lean.mkIdent `Mine.Same):ident at hv'); subst hv'; (try dsimp only); (try k_fold)))
local macro_rules | `(tactic| walk_at "mine s1") => `(tactic| (intro v' h' tk' F' N' hP'; (obtain ⟨_, t', hv'⟩ := hP'); subst hv'; (try dsimp only); (try k_fold)))
local macro_rules | `(tactic| walk_at "mine s2") => `(tactic| (intro v' h' tk' n9 F' N8 hP'; (obtain ⟨hv', vs8, n8, hd8, hl8, hs8⟩ := hP'); subst hv'; (have N' := $(Lean.mkIdent `Mine.News.sub):ident N8 hs8); clear hs8 N8; (try dsimp only); (try k_fold)))
local macro_rules | `(tactic| walk_at "mine s3") => `(tactic| (intro x9 dx9 lx9 tx9 h' tk' F' N' l1 l2 l3; (try k_lt l1); (try dsimp only); (try k_fold)))
local macro_rules | `(tactic| walk_at "mine k4") => `(tactic| first | assumption | exact List.forall_mem_nil _ | (refine' List.forall_mem_cons.mpr ⟨?a, ?b⟩; (case a => k_ne); (case b => k_all)))
theorem words : True := by
  (k_with "mlt" => with_reducible first | assumption | exact cj0 (by assumption) | exact cj1 (by assumption) | exact cj2 (by assumption) | exact cj3 (by assumption) | exact cj4 (by assumption) | exact cj5 (by assumption) | exact cj6 (by assumption) | exact cj7 (by assumption) | exact cj8 (by assumption) | exact cj9 (by assumption) | exact cj10 (by assumption) | exact cj11 (by assumption) | exact cj12 (by assumption) | exact cj13 (by assumption) | fail "om")
  (k_with "mom0" => with_reducible first | ((show @Ne Nat _ _); first | assumption | exact Ne.symm (by assumption) | (refine Nat.ne_of_lt ?_; walk_at "mine lt") | (refine Nat.ne_of_gt ?_; walk_at "mine lt") | exact Ne.symm (cj0 (by assumption)) | exact Ne.symm (cj1 (by assumption)) | exact Ne.symm (cj2 (by assumption)) | exact Nat.ne_of_lt (Nat.lt_trans (by assumption) (by assumption)) | exact Nat.ne_of_gt (Nat.lt_trans (by assumption) (by assumption)) | fail "om") | ((show @LT.lt Nat _ _ _); first | walk_at "mine lt" | exact rm0 (by assumption) | exact rm1 (by assumption) (by decide) | exact rm2 (by assumption) (by decide) | exact rm3 (by assumption) (by decide) | exact rm4 (by assumption) (by decide) | exact lt_eq9 (by assumption) (by assumption) | fail "om") | ((show @LE.le Nat _ _ _); first | assumption | exact Nat.le_trans (by assumption) (by decide) | exact Nat.le_of_lt (Nat.lt_of_lt_of_le (by assumption) (by decide)) | exact le_eq9 (by assumption) (by assumption) (by decide) | exact le_eq8 (by assumption) (by assumption) (by assumption) (by decide) | fail "om") | fail "om")
  (k_with "mv1" => (k_dflt (refine' leave_back ?mv1k0 ?mv1k1 ?mv1k2 ?mv1k3 ?mv1k5 ?mv1k4); (case mv1k0 => assumption); (case mv1k1 => k_asm); (case mv1k2 => k_asm); (case mv1k3 => assumption); (case mv1k5 => exact rfl)))
  (k_with "mv2" => first | (k_dflt (refine call_search1 (by k_asm) (by k_asm) (by assumption) (by omega) ?_); (try dsimp only)) | (k_dflt (refine call_search2 (by k_asm) (by k_asm) (by assumption) (by omega) ?_); (try dsimp only)))
  (k_with "mv3" => first | ((with_reducible show wpAny _ _ (getMethod (Value.ref 48) _ _) _ _ _); k_dflt (refine get_search1 (by k_asm) (by k_asm) ?_); (try dsimp only)) | ((with_reducible show wpAny _ _ (getMethod (Value.ref 53) _ _) _ _ _); k_dflt (refine get_search2 (by k_asm) (by k_asm) ?_); (try dsimp only)))
  (k_with "mv4" => (((with_reducible show wpAny _ _ _ _ _ (Shared.mk _ _ _ (_ + _) _)); refine gen_toks (by first | exact Nat.succ_pos _ | omega) ?_); intro _ _))
  (k_with "mk0" => assumption)
  (k_with "mv6" => (k_dflt (refine' leave_backL ?mv6k0 ?mv6k1 ?mv6k2 ?mv6k5 ?mv6k4); (case mv6k0 => assumption); (case mv6k1 => k_asm); (case mv6k2 => k_asm); (case mv6k5 => exact rfl)))
  (k_with "mv7" => (k_dflt (refine' unr_end1 ?mv7k1 ?mv7k2 ?mv7k3 ?mv7k4); (case mv7k1 => k_asm); (case mv7k2 => k_asm); (case mv7k3 => k_all); (refine ⟨?mv7a1, ?mv7a2⟩); (case mv7a1 => first | exact ⟨by k_mem, trivial⟩ | exact trivial)))
  (k_with "mk1" => first | assumption | (intro p9 hp9; refine Nat.ne_of_lt ((by assumption : ∀ p ∈ _, p.1 < _) p9 ?_); simp only [List.mem_cons, hp9, or_true, true_or]; done) | (intro p9 hp9; refine Nat.ne_of_lt (Nat.lt_of_lt_of_le ((by assumption : ∀ p ∈ _, p.1 < _) p9 ?_) (Nat.le_add_right _ _)); simp only [List.mem_cons, hp9, or_true, true_or]; done))
  (k_with "mv9" => (((with_reducible show wpAny _ _ (call (Value.ref 83) [_, Value.str _ _] _) _ _ _); k_dflt (refine' use_pure (convN_spec _ _ _ _ ?mv9q1 ?mv9q2) ?mv9k1 ?mv9k2 ?mv9k3 ?mv9k4 ?mv9k5 ?mv9k6 ?mv9k7 ?mv9k8 ?_; (case mv9k1 => k_asm); (case mv9k2 => k_asm); (case mv9k3 => k_asm); (case mv9k4 => k_asm); (case mv9k5 => k_asm); (case mv9k6 => first | assumption | exact rfl); (case mv9k7 => ktr_room); (case mv9k8 => ktr_units); (case mv9q1 => first | assumption | decide +kernel); (case mv9q2 => first | omega | decide +kernel))); walk_at "mine s0"))
  (k_with "mv10" => (((with_reducible show wpAny _ _ (call (Value.ref 83) [_, Value.str _ _] _) _ _ _); k_dflt (refine' use_pure (convV_spec _ _ _ _ ?mv10q1 ?mv10q2) ?mv10k1 ?mv10k2 ?mv10k3 ?mv10k4 ?mv10k5 ?mv10k6 ?mv10k7 ?mv10k8 ?_; (case mv10k1 => k_asm); (case mv10k2 => k_asm); (case mv10k3 => k_asm); (case mv10k4 => k_asm); (case mv10k5 => k_asm); (case mv10k6 => first | assumption | exact rfl); (case mv10k7 => ktr_room); (case mv10k8 => ktr_units); (case mv10q1 => first | assumption | decide +kernel); (case mv10q2 => first | omega | decide +kernel))); walk_at "mine s0"))
  (k_with "mv11" => (k_dflt (refine LCt.ListComp_T (F₀ := by k_asm) (by with_unfolding_all rfl) (by decide) (by rfl) (by decide) (by rfl) ?_)))
  (k_with "mv12" => ((k_dflt (refine' CompSrcT.ledger ?mv12k0 ?mv12k1 ?mv12k2 ?mv12k3 ?mv12k4 ?mv12k5; (case mv12k0 => exact rfl); (case mv12k1 => k_asm); (case mv12k2 => k_asm); (case mv12k3 => k_mem); (case mv12k4 => (rw [List.size_toArray, sizeLine_eq]; omega)))); intro _))
  (k_with "mv13" => (k_dflt (refine' lt_keys (a := ?mv13ka) (b := ?mv13kb) ?mv13kN ?mv13kx ?mv13ky ?mv13kn ?mv13ku ?_; (case mv13kN => k_asm); (case mv13kx => exact KeyAt.sub (by assumption) (fun p hp => by simp only [List.mem_cons, hp, or_true])); (case mv13ky => exact KeyAt.sub (by assumption) (fun p hp => by simp only [List.mem_cons, hp, or_true])); (case mv13kn => assumption); (case mv13ku => ktr_units))))
  (k_with "mk2" => first | assumption | (intro p9 hp9; refine Nat.ne_of_lt ((by assumption : ∀ p ∈ _, p.1 < _) p9 ?_); simp only [List.mem_cons, hp9, or_true, true_or]; done))
  (k_with "mv15" => (((with_reducible show wpAny _ _ (call (Value.ref 61) [Value.str _ _, Value.str _ _]) _ _ _); k_dflt (refine' use_pure (fmt_spec _ _ _ _ _ ?mv15q1 ?mv15q2 ?mv15q3 ?mv15q4 ?mv15q5) ?mv15k1 ?mv15k2 ?mv15k3 ?mv15k4 ?mv15k5 ?mv15k6 ?mv15k7 ?mv15k8 ?_; (case mv15k1 => k_asm); (case mv15k2 => k_asm); (case mv15k3 => k_asm); (case mv15k4 => k_asm); (case mv15k5 => k_asm); (case mv15k6 => first | assumption | exact rfl); (case mv15k7 => ktr_room); (case mv15k8 => ktr_units); (case mv15q1 => first | omega | decide +kernel); (case mv15q2 => first | omega | decide +kernel); (case mv15q3 => first | omega | decide +kernel); (case mv15q4 => first | assumption | decide +kernel); (case mv15q5 => first | assumption | decide +kernel))); walk_at "mine s1"))
  (k_with "mv16" => ((rename Fr _ _ _ _ => lFz9); (rename News _ _ _ _ => lNz9); with_unfolding_all ((refine' For_turns lFz9 ?_); k_whole; (refine MethodCall_ ?_); (refine ld lFz9 (by rfl) ?_); (refine getMethod_tab (knd := PySem.strKind _ _) (enc := PyData.str) PySem.F.slot_dict_items PySem.F.type_dict_items (by k_tabat) ?_); (refine callWith_method0 ?_); (refine call_items_tab (knd := PySem.strKind _ _) (enc := PyData.str) (by k_tabat) lFz9 lNz9 ?_); intro hz9 oz9 hvz9 Fz9 Nz9; (replace Nz9 := kti_tail Nz9); (refine kti_items (knd := PySem.strKind _ _) (enc := PyData.str) (by rfl) Fz9 Nz9 hvz9 (by k_tabat) (by k_mem) (fun _ _ h => Value.isStrOf_shape h) rfl ?_)); clear lFz9 lNz9; intro iz9 l1z9; (have l2z9 := l1z9); (try k_lt l1z9); (try simp only [List.map_cons, List.map_nil, kyStr])))
  (k_with "mv17" => ((k_dflt (refine' join_list ⟨_, News.get (by k_asm) (by k_mem), rfl, _, rfl⟩ ?mv17ji ?mv17jo ?_; (case mv17ji => first | exact StrsAre.cons _ _ (StrsAre.cons _ _ .nil) | exact StrsAre.cons _ _ .nil | exact StrsAre.cons _ _ (StrsAre.cons _ _ (StrsAre.cons _ _ .nil))); (case mv17jo => (simp only [List.map_cons, List.map_nil, List.sum_cons, List.sum_nil, List.length_cons, List.length_nil, fmt_len, at_len, sep_len, rep_len, xy_len]; omega)))); intro _ _; (try dsimp only)))
  (k_with "mv18" => (((with_reducible show wpAny _ _ (call (Value.builtin "str.replace") [Value.str (Str.ofString "by_hand") _, _, _]) _ _ _); k_dflt (refine SC.replaceW (Nat.ne_of_gt (by assumption)) (Nat.succ_ne_zero _) (Nat.ne_of_lt (Nat.lt_succ_self _)) (by decide +kernel) (by decide +kernel) (by decide +kernel) ?_)); intro _ _; (try dsimp only)))
  (k_with "mv19" => (k_dflt (refine' own_delItem ?mv19F ?mv19X ?mv19I ?mv19hQ ?mv19hS ?mv19hF ?_; (case mv19F => k_asm); (case mv19X => k_asm); (case mv19I => k_inst); (case mv19hS => k_is); (case mv19hF => k_is); (case mv19hQ => k_is); k_whole)))
  (k_with "mv20" => (((with_reducible show wpAny _ _ (call (Value.ref 102) _) _ _ _); k_dflt (refine' use_led (del_spec _ _ _ _ _ _ _ _ _ _ _ ?mv20q1 ?mv20q2 ?mv20q3 ?mv20q4 ?mv20q5 ?mv20q6 ?mv20q7 ?mv20q8) ?mv20k1 ?mv20k2 ?mv20k3 ?mv20k4 ?mv20k5 ?mv20k6 ?mv20k7 ?mv20k8 ?_; (case mv20k1 => k_asm); (case mv20k2 => k_asm); (case mv20k3 => k_asm); (case mv20k4 => k_asm); (case mv20k5 => k_asm); (case mv20k6 => first | assumption | exact rfl); (case mv20k7 => ktr_room); (case mv20k8 => ktr_units); (case mv20q1 => assumption); (case mv20q2 => assumption); (case mv20q3 => assumption); (case mv20q4 => assumption); (case mv20q5 => assumption); (case mv20q6 => assumption); (case mv20q7 => assumption); (case mv20q8 => assumption))); walk_at "mine s2"))
  (k_with "mv21" => ((dsimp only; k_dflt (refine' pop_key ?mv21kF ?mv21kN ?mv21kl ?mv21kU ?_; (case mv21kF => k_asm); (case mv21kN => k_asm); (case mv21kU => k_upd); (case mv21kl => assumption))); intro _ _ _))
  (k_with "mv22" => (((with_reducible show wpAny _ _ (call (Value.ref 221) [Value.int _ _]) _ _ _); k_dflt (refine' use_pure (sifmt_spec _ _ _) ?mv22k1 ?mv22k2 ?mv22k3 ?mv22k4 ?mv22k5 ?mv22k6 ?mv22k7 ?mv22k8 ?_; (case mv22k1 => k_asm); (case mv22k2 => k_asm); (case mv22k3 => k_asm); (case mv22k4 => k_asm); (case mv22k5 => k_asm); (case mv22k6 => first | assumption | exact rfl); (case mv22k7 => ktr_room); (case mv22k8 => ktr_units))); walk_at "mine s1"))
  (k_with "mv23" => (((with_reducible show wpAny _ _ (subscriptTail _ _ (Value.str _ _) (Value.int _ _)) _ _ _); (refine KXi.item (by kxi_len) ?mv23kx1 ?mv23kx2 (by decide) ?_); (case mv23kx1 => ((try simp (discharger := decide) only [fd, fm]); omega)); (case mv23kx2 => ((try simp (discharger := decide) only [fd, fm]); omega))); intro _))
  (k_with "mv24" => (((with_reducible show wpAny _ _ (call (Value.ref 296) [Value.int _ _]) _ _ _); k_dflt (refine' use_pure (written_spec _ _ _ ?mv24q1 ?mv24q2) ?mv24k1 ?mv24k2 ?mv24k3 ?mv24k4 ?mv24k5 ?mv24k6 ?mv24k7 ?mv24k8 ?_; (case mv24k1 => k_asm); (case mv24k2 => k_asm); (case mv24k3 => k_asm); (case mv24k4 => k_asm); (case mv24k5 => k_asm); (case mv24k6 => first | assumption | exact rfl); (case mv24k7 => ktr_room); (case mv24k8 => ktr_units); (case mv24q1 => assumption); (case mv24q2 => assumption); skip)); walk_at "mine s1"))
  (k_with "mv25" => (((with_reducible show wpAny _ _ (call (Value.ref 303) [Value.int _ _]) _ _ _); k_dflt (refine' use_pure (hour_spec _ _ _ ?mv25q1 ?mv25q2) ?mv25k1 ?mv25k2 ?mv25k3 ?mv25k4 ?mv25k5 ?mv25k6 ?mv25k7 ?mv25k8 ?_; (case mv25k1 => k_asm); (case mv25k2 => k_asm); (case mv25k3 => k_asm); (case mv25k4 => k_asm); (case mv25k5 => k_asm); (case mv25k6 => first | assumption | exact rfl); (case mv25k7 => ktr_room); (case mv25k8 => ktr_units); (case mv25q1 => assumption); (case mv25q2 => assumption); skip)); walk_at "mine s1"))
  (k_with "mk3" => (intro p9 hp9; refine neN ?_; (have h9 := (by assumption : ∀ p ∈ _, @LT.lt Nat _ _ p.1) p9 hp9); omega))
  (k_with "mv27" => (((with_reducible show wpAny _ _ (call (Value.ref 182) _ _) _ _ _); k_dflt (refine' new_headers ?mv27k1 ?mv27k2 ?mv27k3 ?mv27k4 ?mv27k5 ?mv27k6 ?mv27k7 ?mv27k8 ?_; (case mv27k1 => k_asm); (case mv27k2 => k_asm); (case mv27k3 => k_asm); (case mv27k4 => k_asm); (case mv27k5 => k_asm); (case mv27k6 => first | assumption | exact rfl); (case mv27k7 => ktr_room); (case mv27k8 => ktr_units))); walk_at "mine s3"))
  (k_with "mv28" => (((with_reducible show wpAny _ _ (call (Value.ref 282) [Value.int _ _]) _ _ _); k_dflt (refine' use_pure (mode_spec _ _ _) ?mv28k1 ?mv28k2 ?mv28k3 ?mv28k4 ?mv28k5 ?mv28k6 ?mv28k7 ?mv28k8 ?_; (case mv28k1 => k_asm); (case mv28k2 => k_asm); (case mv28k3 => k_asm); (case mv28k4 => k_asm); (case mv28k5 => k_asm); (case mv28k6 => first | assumption | exact rfl); (case mv28k7 => ktr_room); (case mv28k8 => ktr_units))); walk_at "mine s1"))
  (k_with "mv29" => (k_dflt (refine' leave_backF ?mv29k0 ?mv29k1 ?mv29k2 ?mv29k3 ?mv29k5 ?mv29k4); (case mv29k0 => assumption); (case mv29k1 => k_asm); (case mv29k2 => k_asm); (case mv29k3 => assumption); (case mv29k5 => exact rfl)))
  (k_with "mv30" => ((with_reducible show wpAny _ _ (subscriptTail _ _ (Value.ref _) (Value.int 1 _)) _ _ _); k_dflt (refine' item_t3 (j := 1) ?mv30kN (List.Mem.head _) rfl rfl ?_; (case mv30kN => k_asm))))
  (k_with "mv31" => ((with_reducible show wpAny _ _ (subscriptTail _ _ (Value.ref _) (Value.int 2 _)) _ _ _); k_dflt (refine' item_t3 (j := 2) ?mv31kN (List.Mem.head _) rfl rfl ?_; (case mv31kN => k_asm))))
  (k_with "mv32" => ((with_reducible show wpAny _ _ (subscriptTail _ _ (Value.ref _) (Value.int (-1) _)) _ _ _); k_dflt (refine' item_last ?mv32kN ?mv32km ?mv32kl ?_; (case mv32kN => k_asm); (case mv32km => k_mem); (case mv32kl => (rw [List.length_map, List.length_range]; omega)))))
  (k_with "mv33" => (k_dflt (refine' len_any ?mv33kN ?mv33km ?mv33kl ?_; (case mv33kN => k_asm); (case mv33km => k_mem); (case mv33kl => (first | assumption | omega | apply_assumption)))))
  (k_with "mv34" => (k_dflt (refine' item_any (i := ?mv34ki) ?mv34kN ?mv34km ?mv34kh ?mv34kk ?mv34kl ?_; (case mv34kN => k_asm); (case mv34km => k_mem); (case mv34kk => assumption); (case mv34kh => first | rfl | omega); (case mv34kl => first | assumption | omega))))
  (k_with "mv35" => ((with_reducible show wpAny _ _ (execs [Stmt.If _ _ _ _, Stmt.Assign _ _ _, Stmt.Return _ _] _) _ _ _); refine Paused.intro ?_))
  (k_with "mv36" => (k_dflt (refine' item_any (i := 0) ?mv36kN ?mv36km rfl ?mv36kk ?mv36kl ?_; (case mv36kN => k_asm); (case mv36km => k_mem); (case mv36kk => assumption); (case mv36kl => ((simp only [List.length_append, List.length_cons, List.length_nil]); omega)))))
  (k_with "mv37" => ((with_reducible show wpAny _ _ (execs (Stmt.Assign [Expr.Tuple _ _ _] _ _ :: _) _) _ _ _); refine Paused.intro ?_))
  trivial
section
noncomputable abbrev prog : Program := PySem.Challenge.pw_of0073_01
noncomputable def defParts : Stmt → Option (Arguments × List Stmt × Scope)
  | .FunctionDef _ a b _ _ _ s _ _ _ => some (a, b, s)
  | _ => none
noncomputable def topDef (i : Nat) : Option (Arguments × List Stmt × Scope) := prog.main.body[i]?.bind defParts
noncomputable def clsDef (i j : Nat) : Option (Arguments × List Stmt × Scope) := prog.main.body[i]?.bind fun
  | .ClassDef _ _ _ b _ _ _ _ _ _ _ => b[j]?.bind defParts
  | _ => none
noncomputable abbrev Fn (o : Option (Arguments × List Stmt × Scope)) := { x : Arguments × List Stmt × Scope // o = some x }
@[reducible] noncomputable def fWall : Fn (topDef 1) := ⟨_, rfl⟩
@[reducible] noncomputable def fFormatparam : Fn (topDef 6) := ⟨_, rfl⟩
@[reducible] noncomputable def fHeadersInit : Fn (clsDef 7 0) := ⟨_, rfl⟩
@[reducible] noncomputable def fHeadersConvertStringType : Fn (clsDef 7 1) := ⟨_, rfl⟩
@[reducible] noncomputable def fHeadersLen : Fn (clsDef 7 2) := ⟨_, rfl⟩
@[reducible] noncomputable def fHeadersSetitem : Fn (clsDef 7 3) := ⟨_, rfl⟩
@[reducible] noncomputable def fHeadersDelitem : Fn (clsDef 7 4) := ⟨_, rfl⟩
@[reducible] noncomputable def fHeadersGetitem : Fn (clsDef 7 5) := ⟨_, rfl⟩
@[reducible] noncomputable def fHeadersContains : Fn (clsDef 7 6) := ⟨_, rfl⟩
@[reducible] noncomputable def fHeadersGetAll : Fn (clsDef 7 7) := ⟨_, rfl⟩
@[reducible] noncomputable def fHeadersGet : Fn (clsDef 7 8) := ⟨_, rfl⟩
@[reducible] noncomputable def fHeadersKeys : Fn (clsDef 7 9) := ⟨_, rfl⟩
@[reducible] noncomputable def fHeadersValues : Fn (clsDef 7 10) := ⟨_, rfl⟩
@[reducible] noncomputable def fHeadersItems : Fn (clsDef 7 11) := ⟨_, rfl⟩
@[reducible] noncomputable def fHeadersRepr : Fn (clsDef 7 12) := ⟨_, rfl⟩
@[reducible] noncomputable def fHeadersStr : Fn (clsDef 7 13) := ⟨_, rfl⟩
@[reducible] noncomputable def fHeadersBytes : Fn (clsDef 7 14) := ⟨_, rfl⟩
@[reducible] noncomputable def fHeadersSetdefault : Fn (clsDef 7 15) := ⟨_, rfl⟩
@[reducible] noncomputable def fHeadersAddHeader : Fn (clsDef 7 16) := ⟨_, rfl⟩
@[reducible] noncomputable def fHeappush : Fn (topDef 9) := ⟨_, rfl⟩
@[reducible] noncomputable def fHeappop : Fn (topDef 10) := ⟨_, rfl⟩
@[reducible] noncomputable def fSiftdown : Fn (topDef 11) := ⟨_, rfl⟩
@[reducible] noncomputable def fSiftup : Fn (topDef 12) := ⟨_, rfl⟩
@[reducible] noncomputable def fSIFMT : Fn (topDef 14) := ⟨_, rfl⟩
@[reducible] noncomputable def fSISDIR : Fn (topDef 22) := ⟨_, rfl⟩
@[reducible] noncomputable def fSISREG : Fn (topDef 23) := ⟨_, rfl⟩
@[reducible] noncomputable def fSISLNK : Fn (topDef 24) := ⟨_, rfl⟩
@[reducible] noncomputable def fFilemode : Fn (topDef 38) := ⟨_, rfl⟩
@[reducible] noncomputable def fLawEvents : Fn (topDef 40) := ⟨_, rfl⟩
@[reducible] noncomputable def fLawWritten : Fn (topDef 41) := ⟨_, rfl⟩
@[reducible] noncomputable def fLawHour : Fn (topDef 42) := ⟨_, rfl⟩
@[reducible] noncomputable def fLawLogged : Fn (topDef 43) := ⟨_, rfl⟩
@[reducible] noncomputable def fLawLine : Fn (topDef 44) := ⟨_, rfl⟩
@[reducible] noncomputable def fLawTable : Fn (topDef 45) := ⟨_, rfl⟩
@[reducible] noncomputable def fLawLast : Fn (topDef 46) := ⟨_, rfl⟩
@[reducible] noncomputable def fLaw : Fn (topDef 47) := ⟨_, rfl⟩
noncomputable def K (P : Params) : Frag :=
  (nat_lit 3, { cls := (.type "dict"), dict := none, data := .dict [⟨PyData.keyHash P (Str.ofString "__name__"), (.str (Str.ofString "__name__") 165), (.str (Str.ofString "law_of0073_01") 702)⟩, ⟨PyData.keyHash P (Str.ofString "__doc__"), (.str (Str.ofString "__doc__") 166), .none⟩, ⟨PyData.keyHash P (Str.ofString "__package__"), (.str (Str.ofString "__package__") 167), .none⟩, ⟨PyData.keyHash P (Str.ofString "__loader__"), (.str (Str.ofString "__loader__") 168), (.builtin "__main__.__loader__#opaque")⟩, ⟨PyData.keyHash P (Str.ofString "__spec__"), (.str (Str.ofString "__spec__") 169), .none⟩, ⟨PyData.keyHash P (Str.ofString "__annotations__"), (.str (Str.ofString "__annotations__") 170), (.ref 6)⟩, ⟨PyData.keyHash P (Str.ofString "__builtins__"), (.str (Str.ofString "__builtins__") 171), (.ref 4)⟩, ⟨PyData.keyHash P (Str.ofString "__file__"), (.str (Str.ofString "__file__") 173), (.str (Str.ofString "/claim/cut.py") 172)⟩, ⟨PyData.keyHash P (Str.ofString "__cached__"), (.str (Str.ofString "__cached__") 174), .none⟩, ⟨PyData.keyHash P (Str.ofString "_sre"), (.str (Str.ofString "_sre") 275), (.ref 12)⟩, ⟨PyData.keyHash P (Str.ofString "_wall"), (.str (Str.ofString "_wall") 288), (.ref 38)⟩, ⟨PyData.keyHash P (Str.ofString "tspecials"), (.str (Str.ofString "tspecials") 324), (.ref 43)⟩, ⟨PyData.keyHash P (Str.ofString "_name_disallowed_re"), (.str (Str.ofString "_name_disallowed_re") 350), (.ref 48)⟩, ⟨PyData.keyHash P (Str.ofString "_value_disallowed_re"), (.str (Str.ofString "_value_disallowed_re") 384), (.ref 53)⟩, ⟨PyData.keyHash P (Str.ofString "_formatparam"), (.str (Str.ofString "_formatparam") 394), (.ref 61)⟩, ⟨PyData.keyHash P (Str.ofString "Headers"), (.str (Str.ofString "Headers") 551), (.ref 182)⟩, ⟨PyData.keyHash P (Str.ofString "heappush"), (.str (Str.ofString "heappush") 561), (.ref 193)⟩, ⟨PyData.keyHash P (Str.ofString "heappop"), (.str (Str.ofString "heappop") 570), (.ref 200)⟩, ⟨PyData.keyHash P (Str.ofString "_siftdown"), (.str (Str.ofString "_siftdown") 582), (.ref 207)⟩, ⟨PyData.keyHash P (Str.ofString "_siftup"), (.str (Str.ofString "_siftup") 595), (.ref 214)⟩, ⟨PyData.keyHash P (Str.ofString "S_IFMT"), (.str (Str.ofString "S_IFMT") 604), (.ref 221)⟩, ⟨PyData.keyHash P (Str.ofString "S_IFDIR"), (.str (Str.ofString "S_IFDIR") 606), (.int 16384 605)⟩, ⟨PyData.keyHash P (Str.ofString "S_IFCHR"), (.str (Str.ofString "S_IFCHR") 608), (.int 8192 607)⟩, ⟨PyData.keyHash P (Str.ofString "S_IFBLK"), (.str (Str.ofString "S_IFBLK") 610), (.int 24576 609)⟩, ⟨PyData.keyHash P (Str.ofString "S_IFREG"), (.str (Str.ofString "S_IFREG") 612), (.int 32768 611)⟩, ⟨PyData.keyHash P (Str.ofString "S_IFIFO"), (.str (Str.ofString "S_IFIFO") 614), (.int 4096 613)⟩, ⟨PyData.keyHash P (Str.ofString "S_IFLNK"), (.str (Str.ofString "S_IFLNK") 616), (.int 40960 615)⟩, ⟨PyData.keyHash P (Str.ofString "S_IFSOCK"), (.str (Str.ofString "S_IFSOCK") 618), (.int 49152 617)⟩, ⟨PyData.keyHash P (Str.ofString "S_ISDIR"), (.str (Str.ofString "S_ISDIR") 625), (.ref 228)⟩, ⟨PyData.keyHash P (Str.ofString "S_ISREG"), (.str (Str.ofString "S_ISREG") 632), (.ref 235)⟩, ⟨PyData.keyHash P (Str.ofString "S_ISLNK"), (.str (Str.ofString "S_ISLNK") 639), (.ref 242)⟩, ⟨PyData.keyHash P (Str.ofString "S_ISUID"), (.str (Str.ofString "S_ISUID") 641), (.int 2048 640)⟩, ⟨PyData.keyHash P (Str.ofString "S_ISGID"), (.str (Str.ofString "S_ISGID") 643), (.int 1024 642)⟩, ⟨PyData.keyHash P (Str.ofString "S_ISVTX"), (.str (Str.ofString "S_ISVTX") 645), (.int 512 644)⟩, ⟨PyData.keyHash P (Str.ofString "S_IRUSR"), (.str (Str.ofString "S_IRUSR") 647), (.int 256 646)⟩, ⟨PyData.keyHash P (Str.ofString "S_IWUSR"), (.str (Str.ofString "S_IWUSR") 649), (.int 128 648)⟩, ⟨PyData.keyHash P (Str.ofString "S_IXUSR"), (.str (Str.ofString "S_IXUSR") 651), (.int 64 650)⟩, ⟨PyData.keyHash P (Str.ofString "S_IRGRP"), (.str (Str.ofString "S_IRGRP") 653), (.int 32 652)⟩, ⟨PyData.keyHash P (Str.ofString "S_IWGRP"), (.str (Str.ofString "S_IWGRP") 655), (.int 16 654)⟩, ⟨PyData.keyHash P (Str.ofString "S_IXGRP"), (.str (Str.ofString "S_IXGRP") 657), (.int 8 656)⟩, ⟨PyData.keyHash P (Str.ofString "S_IROTH"), (.str (Str.ofString "S_IROTH") 659), (.int 4 658)⟩, ⟨PyData.keyHash P (Str.ofString "S_IWOTH"), (.str (Str.ofString "S_IWOTH") 661), (.int 2 660)⟩, ⟨PyData.keyHash P (Str.ofString "S_IXOTH"), (.str (Str.ofString "S_IXOTH") 663), (.int 1 662)⟩, ⟨PyData.keyHash P (Str.ofString "_filemode_table"), (.str (Str.ofString "_filemode_table") 689), (.ref 275)⟩, ⟨PyData.keyHash P (Str.ofString "filemode"), (.str (Str.ofString "filemode") 701), (.ref 282)⟩, ⟨PyData.keyHash P (Str.ofString "_law_events"), (.str (Str.ofString "_law_events") 715), (.ref 289)⟩, ⟨PyData.keyHash P (Str.ofString "_law_written"), (.str (Str.ofString "_law_written") 726), (.ref 296)⟩, ⟨PyData.keyHash P (Str.ofString "_law_hour"), (.str (Str.ofString "_law_hour") 733), (.ref 303)⟩, ⟨PyData.keyHash P (Str.ofString "_law_logged"), (.str (Str.ofString "_law_logged") 747), (.ref 310)⟩, ⟨PyData.keyHash P (Str.ofString "_law_line"), (.str (Str.ofString "_law_line") 755), (.ref 317)⟩, ⟨PyData.keyHash P (Str.ofString "_law_table"), (.str (Str.ofString "_law_table") 767), (.ref 324)⟩, ⟨PyData.keyHash P (Str.ofString "_law_last"), (.str (Str.ofString "_law_last") 773), (.ref 329)⟩, ⟨PyData.keyHash P (Str.ofString "law"), (.str (Str.ofString "law") 779), (.ref 334)⟩].toArray 53, slots := [].toArray }) ::
  (nat_lit 32, { cls := (.type "tuple"), dict := none, data := .seq [].toArray 0, slots := [].toArray }) ::
  (nat_lit 34, { cls := (.type "tuple"), dict := none, data := .seq [(.str (Str.ofString "k") 285)].toArray 0, slots := [].toArray }) ::
  (nat_lit 35, { cls := (.type "tuple"), dict := none, data := .seq [].toArray 0, slots := [].toArray }) ::
  (nat_lit 37, { cls := (.type "code"), dict := none, data := .fields [(.str (Str.ofString "_wall") 282), (.str (Str.ofString "_wall") 283), (.str (Str.ofString "/claim/cut.py") 284), (.int 2 0), (.int 1 0), (.int 0 0), (.int 0 0), (.int 3 0), (.ref 32), (.bool true), (.int 276 0), (.ref 33), .none, (.ref 34), (.ref 35), (.ref 36), (.int 286 0), (.int 2 0), (.str (Str.ofString "/claim/cut.py") 287)].toArray, slots := [].toArray }) ::
  (nat_lit 38, { cls := (.type "function"), dict := none, data := .func (fnOf (Str.ofString "_wall") (Str.ofString "_wall") fWall.1.1 fWall.1.2.1 fWall.1.2.2 .none .none .none (.str (Str.ofString "__main__") 164) none (.ref 37) .none), slots := [].toArray }) ::
  (nat_lit 42, { cls := (.type "tuple"), dict := none, data := .seq [(.int 14 0), (.int 14 0), (.int 4 0), (.int 1 0), (.int 1 0), (.int 9 0), (.int 0 0), (.int 4227896069 0), (.int 939524097 0), (.int 0 0), (.int 0 0), (.int 0 0), (.int 0 0), (.int 0 0), (.int 0 0), (.int 13 0), (.int 11 0), (.int 9 0), (.int 0 0), (.int 4227896069 0), (.int 939524097 0), (.int 0 0), (.int 0 0), (.int 0 0), (.int 0 0), (.int 0 0), (.int 0 0), (.int 1 0)].toArray 0, slots := [].toArray }) ::
  (nat_lit 43, { cls := (.type "re.Pattern"), dict := none, data := .fields [(.str (Str.ofString "[ \\(\\)<>@,;:\\\\\"/\\[\\]\\?=]") 292), (.int 32 323), (.int 0 0), .none, .none, (.ref 42), (.int 0 0)].toArray, slots := [].toArray }) ::
  (nat_lit 47, { cls := (.type "tuple"), dict := none, data := .seq [(.int 14 0), (.int 10 0), (.int 4 0), (.int 1 0), (.int 1 0), (.int 22 0), (.int 0 0), (.int 31 0), (.int 16 0), (.int 127 0), (.int 0 0), (.int 13 0), (.int 7 0), (.int 22 0), (.int 0 0), (.int 31 0), (.int 16 0), (.int 127 0), (.int 0 0), (.int 1 0)].toArray 0, slots := [].toArray }) ::
  (nat_lit 48, { cls := (.type "re.Pattern"), dict := none, data := .fields [(.str (Str.ofString "[\\x00-\\x1F\\x7F]") 326), (.int 32 349), (.int 0 0), .none, .none, (.ref 47), (.int 0 0)].toArray, slots := [].toArray }) ::
  (nat_lit 52, { cls := (.type "tuple"), dict := none, data := .seq [(.int 14 0), (.int 14 0), (.int 4 0), (.int 1 0), (.int 1 0), (.int 9 0), (.int 4294966783 0), (.int 0 0), (.int 0 0), (.int 2147483648 0), (.int 0 0), (.int 0 0), (.int 0 0), (.int 0 0), (.int 0 0), (.int 13 0), (.int 11 0), (.int 9 0), (.int 4294966783 0), (.int 0 0), (.int 0 0), (.int 2147483648 0), (.int 0 0), (.int 0 0), (.int 0 0), (.int 0 0), (.int 0 0), (.int 1 0)].toArray 0, slots := [].toArray }) ::
  (nat_lit 53, { cls := (.type "re.Pattern"), dict := none, data := .fields [(.str (Str.ofString "[\\x00-\\x08\\x0A-\\x1F\\x7F]") 352), (.int 32 383), (.int 0 0), .none, .none, (.ref 52), (.int 0 0)].toArray, slots := [].toArray }) ::
  (nat_lit 54, { cls := (.type "tuple"), dict := none, data := .seq [.none, (.int 1 385)].toArray 0, slots := [].toArray }) ::
  (nat_lit 55, { cls := (.type "tuple"), dict := none, data := .seq [].toArray 0, slots := [].toArray }) ::
  (nat_lit 57, { cls := (.type "tuple"), dict := none, data := .seq [(.str (Str.ofString "param") 389), (.str (Str.ofString "value") 390), (.str (Str.ofString "quote") 391)].toArray 0, slots := [].toArray }) ::
  (nat_lit 58, { cls := (.type "tuple"), dict := none, data := .seq [].toArray 0, slots := [].toArray }) ::
  (nat_lit 60, { cls := (.type "code"), dict := none, data := .fields [(.str (Str.ofString "_formatparam") 386), (.str (Str.ofString "_formatparam") 387), (.str (Str.ofString "/claim/cut.py") 388), (.int 9 0), (.int 3 0), (.int 0 0), (.int 0 0), (.int 3 0), (.ref 55), (.bool true), (.int 276 0), (.ref 56), .none, (.ref 57), (.ref 58), (.ref 59), (.int 392 0), (.int 9 0), (.str (Str.ofString "/claim/cut.py") 393)].toArray, slots := [].toArray }) ::
  (nat_lit 61, { cls := (.type "function"), dict := none, data := .func (fnOf (Str.ofString "_formatparam") (Str.ofString "_formatparam") fFormatparam.1.1 fFormatparam.1.2.1 fFormatparam.1.2.2 (.ref 54) .none .none (.str (Str.ofString "cpy313.wsgiref.headers") 289) none (.ref 60) .none), slots := [].toArray }) ::
  (nat_lit 69, { cls := (.type "tuple"), dict := none, data := .seq [.none].toArray 0, slots := [].toArray }) ::
  (nat_lit 70, { cls := (.type "tuple"), dict := none, data := .seq [].toArray 0, slots := [].toArray }) ::
  (nat_lit 72, { cls := (.type "tuple"), dict := none, data := .seq [(.str (Str.ofString "self") 410), (.str (Str.ofString "headers") 411), (.str (Str.ofString "k") 412), (.str (Str.ofString "v") 413)].toArray 0, slots := [].toArray }) ::
  (nat_lit 73, { cls := (.type "tuple"), dict := none, data := .seq [].toArray 0, slots := [].toArray }) ::
  (nat_lit 75, { cls := (.type "code"), dict := none, data := .fields [(.str (Str.ofString "__init__") 407), (.str (Str.ofString "Headers.__init__") 408), (.str (Str.ofString "/claim/cut.py") 409), (.int 20 0), (.int 2 0), (.int 0 0), (.int 0 0), (.int 3 0), (.ref 70), (.bool true), (.int 276 0), (.ref 71), .none, (.ref 72), (.ref 73), (.ref 74), (.int 414 0), (.int 20 0), (.str (Str.ofString "/claim/cut.py") 415)].toArray, slots := [].toArray }) ::
  (nat_lit 76, { cls := (.type "function"), dict := none, data := .func (fnOf (Str.ofString "__init__") (Str.ofString "Headers.__init__") fHeadersInit.1.1 fHeadersInit.1.2.1 fHeadersInit.1.2.2 (.ref 69) .none .none (.str (Str.ofString "cpy313.wsgiref.headers") 289) none (.ref 75) .none), slots := [].toArray }) ::
  (nat_lit 77, { cls := (.type "tuple"), dict := none, data := .seq [].toArray 0, slots := [].toArray }) ::
  (nat_lit 79, { cls := (.type "tuple"), dict := none, data := .seq [(.str (Str.ofString "self") 420), (.str (Str.ofString "value") 421), (.str (Str.ofString "name") 422), (.str (Str.ofString "regex") 423)].toArray 0, slots := [].toArray }) ::
  (nat_lit 80, { cls := (.type "tuple"), dict := none, data := .seq [].toArray 0, slots := [].toArray }) ::
  (nat_lit 82, { cls := (.type "code"), dict := none, data := .fields [(.str (Str.ofString "_convert_string_type") 417), (.str (Str.ofString "Headers._convert_string_type") 418), (.str (Str.ofString "/claim/cut.py") 419), (.int 30 0), (.int 2 0), (.int 0 0), (.int 1 0), (.int 3 0), (.ref 77), (.bool true), (.int 276 0), (.ref 78), .none, (.ref 79), (.ref 80), (.ref 81), (.int 424 0), (.int 30 0), (.str (Str.ofString "/claim/cut.py") 425)].toArray, slots := [].toArray }) ::
  (nat_lit 83, { cls := (.type "function"), dict := none, data := .func (fnOf (Str.ofString "_convert_string_type") (Str.ofString "Headers._convert_string_type") fHeadersConvertStringType.1.1 fHeadersConvertStringType.1.2.1 fHeadersConvertStringType.1.2.2 .none .none .none (.str (Str.ofString "cpy313.wsgiref.headers") 289) none (.ref 82) .none), slots := [].toArray }) ::
  (nat_lit 84, { cls := (.type "tuple"), dict := none, data := .seq [].toArray 0, slots := [].toArray }) ::
  (nat_lit 86, { cls := (.type "tuple"), dict := none, data := .seq [(.str (Str.ofString "self") 430)].toArray 0, slots := [].toArray }) ::
  (nat_lit 87, { cls := (.type "tuple"), dict := none, data := .seq [].toArray 0, slots := [].toArray }) ::
  (nat_lit 89, { cls := (.type "code"), dict := none, data := .fields [(.str (Str.ofString "__len__") 427), (.str (Str.ofString "Headers.__len__") 428), (.str (Str.ofString "/claim/cut.py") 429), (.int 38 0), (.int 1 0), (.int 0 0), (.int 0 0), (.int 3 0), (.ref 84), (.bool true), (.int 276 0), (.ref 85), .none, (.ref 86), (.ref 87), (.ref 88), (.int 431 0), (.int 38 0), (.str (Str.ofString "/claim/cut.py") 432)].toArray, slots := [].toArray }) ::
  (nat_lit 90, { cls := (.type "function"), dict := none, data := .func (fnOf (Str.ofString "__len__") (Str.ofString "Headers.__len__") fHeadersLen.1.1 fHeadersLen.1.2.1 fHeadersLen.1.2.2 .none .none .none (.str (Str.ofString "cpy313.wsgiref.headers") 289) none (.ref 89) .none), slots := [].toArray }) ::
  (nat_lit 91, { cls := (.type "tuple"), dict := none, data := .seq [].toArray 0, slots := [].toArray }) ::
  (nat_lit 93, { cls := (.type "tuple"), dict := none, data := .seq [(.str (Str.ofString "self") 437), (.str (Str.ofString "name") 438), (.str (Str.ofString "val") 439)].toArray 0, slots := [].toArray }) ::
  (nat_lit 94, { cls := (.type "tuple"), dict := none, data := .seq [].toArray 0, slots := [].toArray }) ::
  (nat_lit 96, { cls := (.type "code"), dict := none, data := .fields [(.str (Str.ofString "__setitem__") 434), (.str (Str.ofString "Headers.__setitem__") 435), (.str (Str.ofString "/claim/cut.py") 436), (.int 41 0), (.int 3 0), (.int 0 0), (.int 0 0), (.int 3 0), (.ref 91), (.bool true), (.int 276 0), (.ref 92), .none, (.ref 93), (.ref 94), (.ref 95), (.int 440 0), (.int 41 0), (.str (Str.ofString "/claim/cut.py") 441)].toArray, slots := [].toArray }) ::
  (nat_lit 97, { cls := (.type "function"), dict := none, data := .func (fnOf (Str.ofString "__setitem__") (Str.ofString "Headers.__setitem__") fHeadersSetitem.1.1 fHeadersSetitem.1.2.1 fHeadersSetitem.1.2.2 .none .none .none (.str (Str.ofString "cpy313.wsgiref.headers") 289) none (.ref 96) .none), slots := [].toArray }) ::
  (nat_lit 98, { cls := (.type "tuple"), dict := none, data := .seq [].toArray 0, slots := [].toArray }) ::
  (nat_lit 101, { cls := (.type "code"), dict := none, data := .fields [(.str (Str.ofString "__delitem__") 443), (.str (Str.ofString "Headers.__delitem__") 444), (.str (Str.ofString "/claim/cut.py") 445), (.int 45 0), (.int 2 0), (.int 0 0), (.int 0 0), (.int 3 0), (.ref 98), (.bool true), (.int 276 0), (.ref 99), .none, .none, .none, (.ref 100), (.int 446 0), (.int 45 0), (.str (Str.ofString "/claim/cut.py") 447)].toArray, slots := [].toArray }) ::
  (nat_lit 102, { cls := (.type "function"), dict := none, data := .func (fnOf (Str.ofString "__delitem__") (Str.ofString "Headers.__delitem__") fHeadersDelitem.1.1 fHeadersDelitem.1.2.1 fHeadersDelitem.1.2.2 .none .none .none (.str (Str.ofString "cpy313.wsgiref.headers") 289) none (.ref 101) .none), slots := [].toArray }) ::
  (nat_lit 103, { cls := (.type "tuple"), dict := none, data := .seq [].toArray 0, slots := [].toArray }) ::
  (nat_lit 105, { cls := (.type "tuple"), dict := none, data := .seq [(.str (Str.ofString "self") 452), (.str (Str.ofString "name") 453)].toArray 0, slots := [].toArray }) ::
  (nat_lit 106, { cls := (.type "tuple"), dict := none, data := .seq [].toArray 0, slots := [].toArray }) ::
  (nat_lit 108, { cls := (.type "code"), dict := none, data := .fields [(.str (Str.ofString "__getitem__") 449), (.str (Str.ofString "Headers.__getitem__") 450), (.str (Str.ofString "/claim/cut.py") 451), (.int 49 0), (.int 2 0), (.int 0 0), (.int 0 0), (.int 3 0), (.ref 103), (.bool true), (.int 276 0), (.ref 104), .none, (.ref 105), (.ref 106), (.ref 107), (.int 454 0), (.int 49 0), (.str (Str.ofString "/claim/cut.py") 455)].toArray, slots := [].toArray }) ::
  (nat_lit 109, { cls := (.type "function"), dict := none, data := .func (fnOf (Str.ofString "__getitem__") (Str.ofString "Headers.__getitem__") fHeadersGetitem.1.1 fHeadersGetitem.1.2.1 fHeadersGetitem.1.2.2 .none .none .none (.str (Str.ofString "cpy313.wsgiref.headers") 289) none (.ref 108) .none), slots := [].toArray }) ::
  (nat_lit 110, { cls := (.type "tuple"), dict := none, data := .seq [].toArray 0, slots := [].toArray }) ::
  (nat_lit 112, { cls := (.type "tuple"), dict := none, data := .seq [(.str (Str.ofString "self") 460), (.str (Str.ofString "name") 461)].toArray 0, slots := [].toArray }) ::
  (nat_lit 113, { cls := (.type "tuple"), dict := none, data := .seq [].toArray 0, slots := [].toArray }) ::
  (nat_lit 115, { cls := (.type "code"), dict := none, data := .fields [(.str (Str.ofString "__contains__") 457), (.str (Str.ofString "Headers.__contains__") 458), (.str (Str.ofString "/claim/cut.py") 459), (.int 52 0), (.int 2 0), (.int 0 0), (.int 0 0), (.int 3 0), (.ref 110), (.bool true), (.int 276 0), (.ref 111), .none, (.ref 112), (.ref 113), (.ref 114), (.int 462 0), (.int 52 0), (.str (Str.ofString "/claim/cut.py") 463)].toArray, slots := [].toArray }) ::
  (nat_lit 116, { cls := (.type "function"), dict := none, data := .func (fnOf (Str.ofString "__contains__") (Str.ofString "Headers.__contains__") fHeadersContains.1.1 fHeadersContains.1.2.1 fHeadersContains.1.2.2 .none .none .none (.str (Str.ofString "cpy313.wsgiref.headers") 289) none (.ref 115) .none), slots := [].toArray }) ::
  (nat_lit 117, { cls := (.type "tuple"), dict := none, data := .seq [].toArray 0, slots := [].toArray }) ::
  (nat_lit 120, { cls := (.type "code"), dict := none, data := .fields [(.str (Str.ofString "get_all") 465), (.str (Str.ofString "Headers.get_all") 466), (.str (Str.ofString "/claim/cut.py") 467), (.int 55 0), (.int 2 0), (.int 0 0), (.int 0 0), (.int 3 0), (.ref 117), (.bool true), (.int 276 0), (.ref 118), .none, .none, .none, (.ref 119), (.int 468 0), (.int 55 0), (.str (Str.ofString "/claim/cut.py") 469)].toArray, slots := [].toArray }) ::
  (nat_lit 121, { cls := (.type "function"), dict := none, data := .func (fnOf (Str.ofString "get_all") (Str.ofString "Headers.get_all") fHeadersGetAll.1.1 fHeadersGetAll.1.2.1 fHeadersGetAll.1.2.2 .none .none .none (.str (Str.ofString "cpy313.wsgiref.headers") 289) none (.ref 120) .none), slots := [].toArray }) ::
  (nat_lit 122, { cls := (.type "tuple"), dict := none, data := .seq [.none].toArray 0, slots := [].toArray }) ::
  (nat_lit 123, { cls := (.type "tuple"), dict := none, data := .seq [].toArray 0, slots := [].toArray }) ::
  (nat_lit 125, { cls := (.type "tuple"), dict := none, data := .seq [(.str (Str.ofString "self") 474), (.str (Str.ofString "name") 475), (.str (Str.ofString "default") 476), (.str (Str.ofString "k") 477), (.str (Str.ofString "v") 478)].toArray 0, slots := [].toArray }) ::
  (nat_lit 126, { cls := (.type "tuple"), dict := none, data := .seq [].toArray 0, slots := [].toArray }) ::
  (nat_lit 128, { cls := (.type "code"), dict := none, data := .fields [(.str (Str.ofString "get") 471), (.str (Str.ofString "Headers.get") 472), (.str (Str.ofString "/claim/cut.py") 473), (.int 59 0), (.int 3 0), (.int 0 0), (.int 0 0), (.int 3 0), (.ref 123), (.bool true), (.int 276 0), (.ref 124), .none, (.ref 125), (.ref 126), (.ref 127), (.int 479 0), (.int 59 0), (.str (Str.ofString "/claim/cut.py") 480)].toArray, slots := [].toArray }) ::
  (nat_lit 129, { cls := (.type "function"), dict := none, data := .func (fnOf (Str.ofString "get") (Str.ofString "Headers.get") fHeadersGet.1.1 fHeadersGet.1.2.1 fHeadersGet.1.2.2 (.ref 122) .none .none (.str (Str.ofString "cpy313.wsgiref.headers") 289) none (.ref 128) .none), slots := [].toArray }) ::
  (nat_lit 130, { cls := (.type "tuple"), dict := none, data := .seq [].toArray 0, slots := [].toArray }) ::
  (nat_lit 133, { cls := (.type "code"), dict := none, data := .fields [(.str (Str.ofString "keys") 482), (.str (Str.ofString "Headers.keys") 483), (.str (Str.ofString "/claim/cut.py") 484), (.int 66 0), (.int 1 0), (.int 0 0), (.int 0 0), (.int 3 0), (.ref 130), (.bool true), (.int 276 0), (.ref 131), .none, .none, .none, (.ref 132), (.int 485 0), (.int 66 0), (.str (Str.ofString "/claim/cut.py") 486)].toArray, slots := [].toArray }) ::
  (nat_lit 134, { cls := (.type "function"), dict := none, data := .func (fnOf (Str.ofString "keys") (Str.ofString "Headers.keys") fHeadersKeys.1.1 fHeadersKeys.1.2.1 fHeadersKeys.1.2.2 .none .none .none (.str (Str.ofString "cpy313.wsgiref.headers") 289) none (.ref 133) .none), slots := [].toArray }) ::
  (nat_lit 135, { cls := (.type "tuple"), dict := none, data := .seq [].toArray 0, slots := [].toArray }) ::
  (nat_lit 138, { cls := (.type "code"), dict := none, data := .fields [(.str (Str.ofString "values") 488), (.str (Str.ofString "Headers.values") 489), (.str (Str.ofString "/claim/cut.py") 490), (.int 69 0), (.int 1 0), (.int 0 0), (.int 0 0), (.int 3 0), (.ref 135), (.bool true), (.int 276 0), (.ref 136), .none, .none, .none, (.ref 137), (.int 491 0), (.int 69 0), (.str (Str.ofString "/claim/cut.py") 492)].toArray, slots := [].toArray }) ::
  (nat_lit 139, { cls := (.type "function"), dict := none, data := .func (fnOf (Str.ofString "values") (Str.ofString "Headers.values") fHeadersValues.1.1 fHeadersValues.1.2.1 fHeadersValues.1.2.2 .none .none .none (.str (Str.ofString "cpy313.wsgiref.headers") 289) none (.ref 138) .none), slots := [].toArray }) ::
  (nat_lit 140, { cls := (.type "tuple"), dict := none, data := .seq [].toArray 0, slots := [].toArray }) ::
  (nat_lit 142, { cls := (.type "tuple"), dict := none, data := .seq [(.str (Str.ofString "self") 497)].toArray 0, slots := [].toArray }) ::
  (nat_lit 143, { cls := (.type "tuple"), dict := none, data := .seq [].toArray 0, slots := [].toArray }) ::
  (nat_lit 145, { cls := (.type "code"), dict := none, data := .fields [(.str (Str.ofString "items") 494), (.str (Str.ofString "Headers.items") 495), (.str (Str.ofString "/claim/cut.py") 496), (.int 72 0), (.int 1 0), (.int 0 0), (.int 0 0), (.int 3 0), (.ref 140), (.bool true), (.int 276 0), (.ref 141), .none, (.ref 142), (.ref 143), (.ref 144), (.int 498 0), (.int 72 0), (.str (Str.ofString "/claim/cut.py") 499)].toArray, slots := [].toArray }) ::
  (nat_lit 146, { cls := (.type "function"), dict := none, data := .func (fnOf (Str.ofString "items") (Str.ofString "Headers.items") fHeadersItems.1.1 fHeadersItems.1.2.1 fHeadersItems.1.2.2 .none .none .none (.str (Str.ofString "cpy313.wsgiref.headers") 289) none (.ref 145) .none), slots := [].toArray }) ::
  (nat_lit 147, { cls := (.type "tuple"), dict := none, data := .seq [].toArray 0, slots := [].toArray }) ::
  (nat_lit 149, { cls := (.type "tuple"), dict := none, data := .seq [(.str (Str.ofString "self") 504)].toArray 0, slots := [].toArray }) ::
  (nat_lit 150, { cls := (.type "tuple"), dict := none, data := .seq [].toArray 0, slots := [].toArray }) ::
  (nat_lit 152, { cls := (.type "code"), dict := none, data := .fields [(.str (Str.ofString "__repr__") 501), (.str (Str.ofString "Headers.__repr__") 502), (.str (Str.ofString "/claim/cut.py") 503), (.int 75 0), (.int 1 0), (.int 0 0), (.int 0 0), (.int 3 0), (.ref 147), (.bool true), (.int 276 0), (.ref 148), .none, (.ref 149), (.ref 150), (.ref 151), (.int 505 0), (.int 75 0), (.str (Str.ofString "/claim/cut.py") 506)].toArray, slots := [].toArray }) ::
  (nat_lit 153, { cls := (.type "function"), dict := none, data := .func (fnOf (Str.ofString "__repr__") (Str.ofString "Headers.__repr__") fHeadersRepr.1.1 fHeadersRepr.1.2.1 fHeadersRepr.1.2.2 .none .none .none (.str (Str.ofString "cpy313.wsgiref.headers") 289) none (.ref 152) .none), slots := [].toArray }) ::
  (nat_lit 154, { cls := (.type "tuple"), dict := none, data := .seq [].toArray 0, slots := [].toArray }) ::
  (nat_lit 157, { cls := (.type "code"), dict := none, data := .fields [(.str (Str.ofString "__str__") 508), (.str (Str.ofString "Headers.__str__") 509), (.str (Str.ofString "/claim/cut.py") 510), (.int 78 0), (.int 1 0), (.int 0 0), (.int 0 0), (.int 3 0), (.ref 154), (.bool true), (.int 276 0), (.ref 155), .none, .none, .none, (.ref 156), (.int 511 0), (.int 78 0), (.str (Str.ofString "/claim/cut.py") 512)].toArray, slots := [].toArray }) ::
  (nat_lit 158, { cls := (.type "function"), dict := none, data := .func (fnOf (Str.ofString "__str__") (Str.ofString "Headers.__str__") fHeadersStr.1.1 fHeadersStr.1.2.1 fHeadersStr.1.2.2 .none .none .none (.str (Str.ofString "cpy313.wsgiref.headers") 289) none (.ref 157) .none), slots := [].toArray }) ::
  (nat_lit 159, { cls := (.type "tuple"), dict := none, data := .seq [].toArray 0, slots := [].toArray }) ::
  (nat_lit 161, { cls := (.type "tuple"), dict := none, data := .seq [(.str (Str.ofString "self") 517)].toArray 0, slots := [].toArray }) ::
  (nat_lit 162, { cls := (.type "tuple"), dict := none, data := .seq [].toArray 0, slots := [].toArray }) ::
  (nat_lit 164, { cls := (.type "code"), dict := none, data := .fields [(.str (Str.ofString "__bytes__") 514), (.str (Str.ofString "Headers.__bytes__") 515), (.str (Str.ofString "/claim/cut.py") 516), (.int 81 0), (.int 1 0), (.int 0 0), (.int 0 0), (.int 3 0), (.ref 159), (.bool true), (.int 276 0), (.ref 160), .none, (.ref 161), (.ref 162), (.ref 163), (.int 518 0), (.int 81 0), (.str (Str.ofString "/claim/cut.py") 519)].toArray, slots := [].toArray }) ::
  (nat_lit 165, { cls := (.type "function"), dict := none, data := .func (fnOf (Str.ofString "__bytes__") (Str.ofString "Headers.__bytes__") fHeadersBytes.1.1 fHeadersBytes.1.2.1 fHeadersBytes.1.2.2 .none .none .none (.str (Str.ofString "cpy313.wsgiref.headers") 289) none (.ref 164) .none), slots := [].toArray }) ::
  (nat_lit 166, { cls := (.type "tuple"), dict := none, data := .seq [].toArray 0, slots := [].toArray }) ::
  (nat_lit 168, { cls := (.type "tuple"), dict := none, data := .seq [(.str (Str.ofString "self") 524), (.str (Str.ofString "name") 525), (.str (Str.ofString "value") 526)].toArray 0, slots := [].toArray }) ::
  (nat_lit 169, { cls := (.type "tuple"), dict := none, data := .seq [].toArray 0, slots := [].toArray }) ::
  (nat_lit 171, { cls := (.type "code"), dict := none, data := .fields [(.str (Str.ofString "setdefault") 521), (.str (Str.ofString "Headers.setdefault") 522), (.str (Str.ofString "/claim/cut.py") 523), (.int 84 0), (.int 3 0), (.int 0 0), (.int 0 0), (.int 3 0), (.ref 166), (.bool true), (.int 276 0), (.ref 167), .none, (.ref 168), (.ref 169), (.ref 170), (.int 527 0), (.int 84 0), (.str (Str.ofString "/claim/cut.py") 528)].toArray, slots := [].toArray }) ::
  (nat_lit 172, { cls := (.type "function"), dict := none, data := .func (fnOf (Str.ofString "setdefault") (Str.ofString "Headers.setdefault") fHeadersSetdefault.1.1 fHeadersSetdefault.1.2.1 fHeadersSetdefault.1.2.2 .none .none .none (.str (Str.ofString "cpy313.wsgiref.headers") 289) none (.ref 171) .none), slots := [].toArray }) ::
  (nat_lit 173, { cls := (.type "tuple"), dict := none, data := .seq [].toArray 0, slots := [].toArray }) ::
  (nat_lit 175, { cls := (.type "tuple"), dict := none, data := .seq [(.str (Str.ofString "self") 533), (.str (Str.ofString "_name") 534), (.str (Str.ofString "_value") 535), (.str (Str.ofString "_params") 536), (.str (Str.ofString "parts") 537), (.str (Str.ofString "k") 538), (.str (Str.ofString "v") 539)].toArray 0, slots := [].toArray }) ::
  (nat_lit 176, { cls := (.type "tuple"), dict := none, data := .seq [].toArray 0, slots := [].toArray }) ::
  (nat_lit 178, { cls := (.type "code"), dict := none, data := .fields [(.str (Str.ofString "add_header") 530), (.str (Str.ofString "Headers.add_header") 531), (.str (Str.ofString "/claim/cut.py") 532), (.int 87 0), (.int 3 0), (.int 0 0), (.int 0 0), (.int 11 0), (.ref 173), (.bool true), (.int 276 0), (.ref 174), .none, (.ref 175), (.ref 176), (.ref 177), (.int 540 0), (.int 87 0), (.str (Str.ofString "/claim/cut.py") 541)].toArray, slots := [].toArray }) ::
  (nat_lit 179, { cls := (.type "function"), dict := none, data := .func (fnOf (Str.ofString "add_header") (Str.ofString "Headers.add_header") fHeadersAddHeader.1.1 fHeadersAddHeader.1.2.1 fHeadersAddHeader.1.2.2 .none .none .none (.str (Str.ofString "cpy313.wsgiref.headers") 289) none (.ref 178) .none), slots := [].toArray }) ::
  (nat_lit 180, { cls := (.type "tuple"), dict := none, data := .seq [(.str (Str.ofString "_headers") 543)].toArray 0, slots := [].toArray }) ::
  (nat_lit 181, { cls := (.type "dict"), dict := none, data := .dict [⟨PyData.keyHash P (Str.ofString "__module__"), (.str (Str.ofString "__module__") 402), (.str (Str.ofString "cpy313.wsgiref.headers") 289)⟩, ⟨PyData.keyHash P (Str.ofString "__firstlineno__"), (.str (Str.ofString "__firstlineno__") 406), (.int 18 405)⟩, ⟨PyData.keyHash P (Str.ofString "__init__"), (.str (Str.ofString "__init__") 416), (.ref 76)⟩, ⟨PyData.keyHash P (Str.ofString "_convert_string_type"), (.str (Str.ofString "_convert_string_type") 426), (.ref 83)⟩, ⟨PyData.keyHash P (Str.ofString "__len__"), (.str (Str.ofString "__len__") 433), (.ref 90)⟩, ⟨PyData.keyHash P (Str.ofString "__setitem__"), (.str (Str.ofString "__setitem__") 442), (.ref 97)⟩, ⟨PyData.keyHash P (Str.ofString "__delitem__"), (.str (Str.ofString "__delitem__") 448), (.ref 102)⟩, ⟨PyData.keyHash P (Str.ofString "__getitem__"), (.str (Str.ofString "__getitem__") 456), (.ref 109)⟩, ⟨PyData.keyHash P (Str.ofString "__contains__"), (.str (Str.ofString "__contains__") 464), (.ref 116)⟩, ⟨PyData.keyHash P (Str.ofString "get_all"), (.str (Str.ofString "get_all") 470), (.ref 121)⟩, ⟨PyData.keyHash P (Str.ofString "get"), (.str (Str.ofString "get") 481), (.ref 129)⟩, ⟨PyData.keyHash P (Str.ofString "keys"), (.str (Str.ofString "keys") 487), (.ref 134)⟩, ⟨PyData.keyHash P (Str.ofString "values"), (.str (Str.ofString "values") 493), (.ref 139)⟩, ⟨PyData.keyHash P (Str.ofString "items"), (.str (Str.ofString "items") 500), (.ref 146)⟩, ⟨PyData.keyHash P (Str.ofString "__repr__"), (.str (Str.ofString "__repr__") 507), (.ref 153)⟩, ⟨PyData.keyHash P (Str.ofString "__str__"), (.str (Str.ofString "__str__") 513), (.ref 158)⟩, ⟨PyData.keyHash P (Str.ofString "__bytes__"), (.str (Str.ofString "__bytes__") 520), (.ref 165)⟩, ⟨PyData.keyHash P (Str.ofString "setdefault"), (.str (Str.ofString "setdefault") 529), (.ref 172)⟩, ⟨PyData.keyHash P (Str.ofString "add_header"), (.str (Str.ofString "add_header") 542), (.ref 179)⟩, ⟨PyData.keyHash P (Str.ofString "__static_attributes__"), (.str (Str.ofString "__static_attributes__") 544), (.ref 180)⟩, ⟨PyData.keyHash P (Str.ofString "__dict__"), (.str (Str.ofString "__dict__") 546), (.ref 183)⟩, ⟨PyData.keyHash P (Str.ofString "__weakref__"), (.str (Str.ofString "__weakref__") 548), (.ref 184)⟩, ⟨PyData.keyHash P (Str.ofString "__doc__"), (.str (Str.ofString "__doc__") 549), .none⟩].toArray 4, slots := [].toArray }) ::
  (nat_lit 182, { cls := (.type "type"), dict := none, data := .cls { name := (Str.ofString "Headers"), bases := [(.type "object")], mro := [(.ref 182), (.type "object")], ns := 181, qualname := (Str.ofString "Headers"), hasDict := true, slotNames := [], subclasses := [], abstract := false, collection := none, hasDel := false }, slots := [none, none, some (.str (Str.ofString "Headers") 395), some (.str (Str.ofString "Headers") 403), some (.builtin "object.__new__"), some (.bool true)].toArray }) ::
  (nat_lit 183, { cls := (.type "getset_descriptor"), dict := none, data := .fields [(.str (Str.ofString "__dict__") 545), (.ref 182), (.builtin "function.__dict__"), (.builtin "function.__dict__#set")].toArray, slots := [].toArray }) ::
  (nat_lit 184, { cls := (.type "getset_descriptor"), dict := none, data := .fields [(.str (Str.ofString "__weakref__") 547), (.ref 182), (.builtin "ExceptionGroup.__weakref__"), .none].toArray, slots := [].toArray }) ::
  (nat_lit 187, { cls := (.type "tuple"), dict := none, data := .seq [].toArray 0, slots := [].toArray }) ::
  (nat_lit 189, { cls := (.type "tuple"), dict := none, data := .seq [(.str (Str.ofString "heap") 557), (.str (Str.ofString "item") 558)].toArray 0, slots := [].toArray }) ::
  (nat_lit 190, { cls := (.type "tuple"), dict := none, data := .seq [].toArray 0, slots := [].toArray }) ::
  (nat_lit 192, { cls := (.type "code"), dict := none, data := .fields [(.str (Str.ofString "heappush") 554), (.str (Str.ofString "heappush") 555), (.str (Str.ofString "/claim/cut.py") 556), (.int 101 0), (.int 2 0), (.int 0 0), (.int 0 0), (.int 3 0), (.ref 187), (.bool true), (.int 276 0), (.ref 188), .none, (.ref 189), (.ref 190), (.ref 191), (.int 559 0), (.int 101 0), (.str (Str.ofString "/claim/cut.py") 560)].toArray, slots := [].toArray }) ::
  (nat_lit 193, { cls := (.type "function"), dict := none, data := .func (fnOf (Str.ofString "heappush") (Str.ofString "heappush") fHeappush.1.1 fHeappush.1.2.1 fHeappush.1.2.2 .none .none .none (.str (Str.ofString "cpy313.heapq") 552) none (.ref 192) .none), slots := [].toArray }) ::
  (nat_lit 194, { cls := (.type "tuple"), dict := none, data := .seq [].toArray 0, slots := [].toArray }) ::
  (nat_lit 196, { cls := (.type "tuple"), dict := none, data := .seq [(.str (Str.ofString "heap") 565), (.str (Str.ofString "lastelt") 566), (.str (Str.ofString "returnitem") 567)].toArray 0, slots := [].toArray }) ::
  (nat_lit 197, { cls := (.type "tuple"), dict := none, data := .seq [].toArray 0, slots := [].toArray }) ::
  (nat_lit 199, { cls := (.type "code"), dict := none, data := .fields [(.str (Str.ofString "heappop") 562), (.str (Str.ofString "heappop") 563), (.str (Str.ofString "/claim/cut.py") 564), (.int 104 0), (.int 1 0), (.int 0 0), (.int 0 0), (.int 3 0), (.ref 194), (.bool true), (.int 276 0), (.ref 195), .none, (.ref 196), (.ref 197), (.ref 198), (.int 568 0), (.int 104 0), (.str (Str.ofString "/claim/cut.py") 569)].toArray, slots := [].toArray }) ::
  (nat_lit 200, { cls := (.type "function"), dict := none, data := .func (fnOf (Str.ofString "heappop") (Str.ofString "heappop") fHeappop.1.1 fHeappop.1.2.1 fHeappop.1.2.2 .none .none .none (.str (Str.ofString "cpy313.heapq") 552) none (.ref 199) .none), slots := [].toArray }) ::
  (nat_lit 201, { cls := (.type "tuple"), dict := none, data := .seq [].toArray 0, slots := [].toArray }) ::
  (nat_lit 203, { cls := (.type "tuple"), dict := none, data := .seq [(.str (Str.ofString "heap") 574), (.str (Str.ofString "startpos") 575), (.str (Str.ofString "pos") 576), (.str (Str.ofString "newitem") 577), (.str (Str.ofString "parentpos") 578), (.str (Str.ofString "parent") 579)].toArray 0, slots := [].toArray }) ::
  (nat_lit 204, { cls := (.type "tuple"), dict := none, data := .seq [].toArray 0, slots := [].toArray }) ::
  (nat_lit 206, { cls := (.type "code"), dict := none, data := .fields [(.str (Str.ofString "_siftdown") 571), (.str (Str.ofString "_siftdown") 572), (.str (Str.ofString "/claim/cut.py") 573), (.int 112 0), (.int 3 0), (.int 0 0), (.int 0 0), (.int 3 0), (.ref 201), (.bool true), (.int 276 0), (.ref 202), .none, (.ref 203), (.ref 204), (.ref 205), (.int 580 0), (.int 112 0), (.str (Str.ofString "/claim/cut.py") 581)].toArray, slots := [].toArray }) ::
  (nat_lit 207, { cls := (.type "function"), dict := none, data := .func (fnOf (Str.ofString "_siftdown") (Str.ofString "_siftdown") fSiftdown.1.1 fSiftdown.1.2.1 fSiftdown.1.2.2 .none .none .none (.str (Str.ofString "cpy313.heapq") 552) none (.ref 206) .none), slots := [].toArray }) ::
  (nat_lit 208, { cls := (.type "tuple"), dict := none, data := .seq [].toArray 0, slots := [].toArray }) ::
  (nat_lit 210, { cls := (.type "tuple"), dict := none, data := .seq [(.str (Str.ofString "heap") 586), (.str (Str.ofString "pos") 587), (.str (Str.ofString "endpos") 588), (.str (Str.ofString "startpos") 589), (.str (Str.ofString "newitem") 590), (.str (Str.ofString "childpos") 591), (.str (Str.ofString "rightpos") 592)].toArray 0, slots := [].toArray }) ::
  (nat_lit 211, { cls := (.type "tuple"), dict := none, data := .seq [].toArray 0, slots := [].toArray }) ::
  (nat_lit 213, { cls := (.type "code"), dict := none, data := .fields [(.str (Str.ofString "_siftup") 583), (.str (Str.ofString "_siftup") 584), (.str (Str.ofString "/claim/cut.py") 585), (.int 123 0), (.int 2 0), (.int 0 0), (.int 0 0), (.int 3 0), (.ref 208), (.bool true), (.int 276 0), (.ref 209), .none, (.ref 210), (.ref 211), (.ref 212), (.int 593 0), (.int 123 0), (.str (Str.ofString "/claim/cut.py") 594)].toArray, slots := [].toArray }) ::
  (nat_lit 214, { cls := (.type "function"), dict := none, data := .func (fnOf (Str.ofString "_siftup") (Str.ofString "_siftup") fSiftup.1.1 fSiftup.1.2.1 fSiftup.1.2.2 .none .none .none (.str (Str.ofString "cpy313.heapq") 552) none (.ref 213) .none), slots := [].toArray }) ::
  (nat_lit 215, { cls := (.type "tuple"), dict := none, data := .seq [].toArray 0, slots := [].toArray }) ::
  (nat_lit 217, { cls := (.type "tuple"), dict := none, data := .seq [(.str (Str.ofString "mode") 601)].toArray 0, slots := [].toArray }) ::
  (nat_lit 218, { cls := (.type "tuple"), dict := none, data := .seq [].toArray 0, slots := [].toArray }) ::
  (nat_lit 220, { cls := (.type "code"), dict := none, data := .fields [(.str (Str.ofString "S_IFMT") 598), (.str (Str.ofString "S_IFMT") 599), (.str (Str.ofString "/claim/cut.py") 600), (.int 138 0), (.int 1 0), (.int 0 0), (.int 0 0), (.int 3 0), (.ref 215), (.bool true), (.int 276 0), (.ref 216), .none, (.ref 217), (.ref 218), (.ref 219), (.int 602 0), (.int 138 0), (.str (Str.ofString "/claim/cut.py") 603)].toArray, slots := [].toArray }) ::
  (nat_lit 221, { cls := (.type "function"), dict := none, data := .func (fnOf (Str.ofString "S_IFMT") (Str.ofString "S_IFMT") fSIFMT.1.1 fSIFMT.1.2.1 fSIFMT.1.2.2 .none .none .none (.str (Str.ofString "cpy313.stat") 596) none (.ref 220) .none), slots := [].toArray }) ::
  (nat_lit 222, { cls := (.type "tuple"), dict := none, data := .seq [].toArray 0, slots := [].toArray }) ::
  (nat_lit 224, { cls := (.type "tuple"), dict := none, data := .seq [(.str (Str.ofString "mode") 622)].toArray 0, slots := [].toArray }) ::
  (nat_lit 225, { cls := (.type "tuple"), dict := none, data := .seq [].toArray 0, slots := [].toArray }) ::
  (nat_lit 227, { cls := (.type "code"), dict := none, data := .fields [(.str (Str.ofString "S_ISDIR") 619), (.str (Str.ofString "S_ISDIR") 620), (.str (Str.ofString "/claim/cut.py") 621), (.int 147 0), (.int 1 0), (.int 0 0), (.int 0 0), (.int 3 0), (.ref 222), (.bool true), (.int 276 0), (.ref 223), .none, (.ref 224), (.ref 225), (.ref 226), (.int 623 0), (.int 147 0), (.str (Str.ofString "/claim/cut.py") 624)].toArray, slots := [].toArray }) ::
  (nat_lit 228, { cls := (.type "function"), dict := none, data := .func (fnOf (Str.ofString "S_ISDIR") (Str.ofString "S_ISDIR") fSISDIR.1.1 fSISDIR.1.2.1 fSISDIR.1.2.2 .none .none .none (.str (Str.ofString "cpy313.stat") 596) none (.ref 227) .none), slots := [].toArray }) ::
  (nat_lit 229, { cls := (.type "tuple"), dict := none, data := .seq [].toArray 0, slots := [].toArray }) ::
  (nat_lit 231, { cls := (.type "tuple"), dict := none, data := .seq [(.str (Str.ofString "mode") 629)].toArray 0, slots := [].toArray }) ::
  (nat_lit 232, { cls := (.type "tuple"), dict := none, data := .seq [].toArray 0, slots := [].toArray }) ::
  (nat_lit 234, { cls := (.type "code"), dict := none, data := .fields [(.str (Str.ofString "S_ISREG") 626), (.str (Str.ofString "S_ISREG") 627), (.str (Str.ofString "/claim/cut.py") 628), (.int 149 0), (.int 1 0), (.int 0 0), (.int 0 0), (.int 3 0), (.ref 229), (.bool true), (.int 276 0), (.ref 230), .none, (.ref 231), (.ref 232), (.ref 233), (.int 630 0), (.int 149 0), (.str (Str.ofString "/claim/cut.py") 631)].toArray, slots := [].toArray }) ::
  (nat_lit 235, { cls := (.type "function"), dict := none, data := .func (fnOf (Str.ofString "S_ISREG") (Str.ofString "S_ISREG") fSISREG.1.1 fSISREG.1.2.1 fSISREG.1.2.2 .none .none .none (.str (Str.ofString "cpy313.stat") 596) none (.ref 234) .none), slots := [].toArray }) ::
  (nat_lit 236, { cls := (.type "tuple"), dict := none, data := .seq [].toArray 0, slots := [].toArray }) ::
  (nat_lit 238, { cls := (.type "tuple"), dict := none, data := .seq [(.str (Str.ofString "mode") 636)].toArray 0, slots := [].toArray }) ::
  (nat_lit 239, { cls := (.type "tuple"), dict := none, data := .seq [].toArray 0, slots := [].toArray }) ::
  (nat_lit 241, { cls := (.type "code"), dict := none, data := .fields [(.str (Str.ofString "S_ISLNK") 633), (.str (Str.ofString "S_ISLNK") 634), (.str (Str.ofString "/claim/cut.py") 635), (.int 151 0), (.int 1 0), (.int 0 0), (.int 0 0), (.int 3 0), (.ref 236), (.bool true), (.int 276 0), (.ref 237), .none, (.ref 238), (.ref 239), (.ref 240), (.int 637 0), (.int 151 0), (.str (Str.ofString "/claim/cut.py") 638)].toArray, slots := [].toArray }) ::
  (nat_lit 242, { cls := (.type "function"), dict := none, data := .func (fnOf (Str.ofString "S_ISLNK") (Str.ofString "S_ISLNK") fSISLNK.1.1 fSISLNK.1.2.1 fSISLNK.1.2.2 .none .none .none (.str (Str.ofString "cpy313.stat") 596) none (.ref 241) .none), slots := [].toArray }) ::
  (nat_lit 243, { cls := (.type "tuple"), dict := none, data := .seq [(.int 40960 615), (.str (Str.ofString "l") 664)].toArray 0, slots := [].toArray }) ::
  (nat_lit 244, { cls := (.type "tuple"), dict := none, data := .seq [(.int 49152 617), (.str (Str.ofString "s") 665)].toArray 0, slots := [].toArray }) ::
  (nat_lit 245, { cls := (.type "tuple"), dict := none, data := .seq [(.int 32768 611), (.str (Str.ofString "-") 666)].toArray 0, slots := [].toArray }) ::
  (nat_lit 246, { cls := (.type "tuple"), dict := none, data := .seq [(.int 24576 609), (.str (Str.ofString "b") 667)].toArray 0, slots := [].toArray }) ::
  (nat_lit 247, { cls := (.type "tuple"), dict := none, data := .seq [(.int 16384 605), (.str (Str.ofString "d") 668)].toArray 0, slots := [].toArray }) ::
  (nat_lit 248, { cls := (.type "tuple"), dict := none, data := .seq [(.int 8192 607), (.str (Str.ofString "c") 669)].toArray 0, slots := [].toArray }) ::
  (nat_lit 249, { cls := (.type "tuple"), dict := none, data := .seq [(.int 4096 613), (.str (Str.ofString "p") 670)].toArray 0, slots := [].toArray }) ::
  (nat_lit 250, { cls := (.type "tuple"), dict := none, data := .seq [(.ref 243), (.ref 244), (.ref 245), (.ref 246), (.ref 247), (.ref 248), (.ref 249)].toArray 0, slots := [].toArray }) ::
  (nat_lit 251, { cls := (.type "tuple"), dict := none, data := .seq [(.int 256 646), (.str (Str.ofString "r") 671)].toArray 0, slots := [].toArray }) ::
  (nat_lit 252, { cls := (.type "tuple"), dict := none, data := .seq [(.ref 251)].toArray 0, slots := [].toArray }) ::
  (nat_lit 253, { cls := (.type "tuple"), dict := none, data := .seq [(.int 128 648), (.str (Str.ofString "w") 672)].toArray 0, slots := [].toArray }) ::
  (nat_lit 254, { cls := (.type "tuple"), dict := none, data := .seq [(.ref 253)].toArray 0, slots := [].toArray }) ::
  (nat_lit 255, { cls := (.type "tuple"), dict := none, data := .seq [(.int 2112 673), (.str (Str.ofString "s") 674)].toArray 0, slots := [].toArray }) ::
  (nat_lit 256, { cls := (.type "tuple"), dict := none, data := .seq [(.int 2048 640), (.str (Str.ofString "S") 675)].toArray 0, slots := [].toArray }) ::
  (nat_lit 257, { cls := (.type "tuple"), dict := none, data := .seq [(.int 64 650), (.str (Str.ofString "x") 676)].toArray 0, slots := [].toArray }) ::
  (nat_lit 258, { cls := (.type "tuple"), dict := none, data := .seq [(.ref 255), (.ref 256), (.ref 257)].toArray 0, slots := [].toArray }) ::
  (nat_lit 259, { cls := (.type "tuple"), dict := none, data := .seq [(.int 32 652), (.str (Str.ofString "r") 677)].toArray 0, slots := [].toArray }) ::
  (nat_lit 260, { cls := (.type "tuple"), dict := none, data := .seq [(.ref 259)].toArray 0, slots := [].toArray }) ::
  (nat_lit 261, { cls := (.type "tuple"), dict := none, data := .seq [(.int 16 654), (.str (Str.ofString "w") 678)].toArray 0, slots := [].toArray }) ::
  (nat_lit 262, { cls := (.type "tuple"), dict := none, data := .seq [(.ref 261)].toArray 0, slots := [].toArray }) ::
  (nat_lit 263, { cls := (.type "tuple"), dict := none, data := .seq [(.int 1032 679), (.str (Str.ofString "s") 680)].toArray 0, slots := [].toArray }) ::
  (nat_lit 264, { cls := (.type "tuple"), dict := none, data := .seq [(.int 1024 642), (.str (Str.ofString "S") 681)].toArray 0, slots := [].toArray }) ::
  (nat_lit 265, { cls := (.type "tuple"), dict := none, data := .seq [(.int 8 656), (.str (Str.ofString "x") 682)].toArray 0, slots := [].toArray }) ::
  (nat_lit 266, { cls := (.type "tuple"), dict := none, data := .seq [(.ref 263), (.ref 264), (.ref 265)].toArray 0, slots := [].toArray }) ::
  (nat_lit 267, { cls := (.type "tuple"), dict := none, data := .seq [(.int 4 658), (.str (Str.ofString "r") 683)].toArray 0, slots := [].toArray }) ::
  (nat_lit 268, { cls := (.type "tuple"), dict := none, data := .seq [(.ref 267)].toArray 0, slots := [].toArray }) ::
  (nat_lit 269, { cls := (.type "tuple"), dict := none, data := .seq [(.int 2 660), (.str (Str.ofString "w") 684)].toArray 0, slots := [].toArray }) ::
  (nat_lit 270, { cls := (.type "tuple"), dict := none, data := .seq [(.ref 269)].toArray 0, slots := [].toArray }) ::
  (nat_lit 271, { cls := (.type "tuple"), dict := none, data := .seq [(.int 513 685), (.str (Str.ofString "t") 686)].toArray 0, slots := [].toArray }) ::
  (nat_lit 272, { cls := (.type "tuple"), dict := none, data := .seq [(.int 512 644), (.str (Str.ofString "T") 687)].toArray 0, slots := [].toArray }) ::
  (nat_lit 273, { cls := (.type "tuple"), dict := none, data := .seq [(.int 1 662), (.str (Str.ofString "x") 688)].toArray 0, slots := [].toArray }) ::
  (nat_lit 274, { cls := (.type "tuple"), dict := none, data := .seq [(.ref 271), (.ref 272), (.ref 273)].toArray 0, slots := [].toArray }) ::
  (nat_lit 275, { cls := (.type "tuple"), dict := none, data := .seq [(.ref 250), (.ref 252), (.ref 254), (.ref 258), (.ref 260), (.ref 262), (.ref 266), (.ref 268), (.ref 270), (.ref 274)].toArray 0, slots := [].toArray }) ::
  (nat_lit 276, { cls := (.type "tuple"), dict := none, data := .seq [].toArray 0, slots := [].toArray }) ::
  (nat_lit 278, { cls := (.type "tuple"), dict := none, data := .seq [(.str (Str.ofString "mode") 693), (.str (Str.ofString "perm") 694), (.str (Str.ofString "index") 695), (.str (Str.ofString "table") 696), (.str (Str.ofString "bit") 697), (.str (Str.ofString "char") 698)].toArray 0, slots := [].toArray }) ::
  (nat_lit 279, { cls := (.type "tuple"), dict := none, data := .seq [].toArray 0, slots := [].toArray }) ::
  (nat_lit 281, { cls := (.type "code"), dict := none, data := .fields [(.str (Str.ofString "filemode") 690), (.str (Str.ofString "filemode") 691), (.str (Str.ofString "/claim/cut.py") 692), (.int 166 0), (.int 1 0), (.int 0 0), (.int 0 0), (.int 3 0), (.ref 276), (.bool true), (.int 276 0), (.ref 277), .none, (.ref 278), (.ref 279), (.ref 280), (.int 699 0), (.int 166 0), (.str (Str.ofString "/claim/cut.py") 700)].toArray, slots := [].toArray }) ::
  (nat_lit 282, { cls := (.type "function"), dict := none, data := .func (fnOf (Str.ofString "filemode") (Str.ofString "filemode") fFilemode.1.1 fFilemode.1.2.1 fFilemode.1.2.2 .none .none .none (.str (Str.ofString "cpy313.stat") 596) none (.ref 281) .none), slots := [].toArray }) ::
  (nat_lit 283, { cls := (.type "tuple"), dict := none, data := .seq [].toArray 0, slots := [].toArray }) ::
  (nat_lit 285, { cls := (.type "tuple"), dict := none, data := .seq [(.str (Str.ofString "numbers") 707), (.str (Str.ofString "order") 708), (.str (Str.ofString "events") 709), (.str (Str.ofString "k") 710), (.str (Str.ofString "x") 711), (.str (Str.ofString "name") 712)].toArray 0, slots := [].toArray }) ::
  (nat_lit 286, { cls := (.type "tuple"), dict := none, data := .seq [].toArray 0, slots := [].toArray }) ::
  (nat_lit 288, { cls := (.type "code"), dict := none, data := .fields [(.str (Str.ofString "_law_events") 704), (.str (Str.ofString "_law_events") 705), (.str (Str.ofString "/claim/cut.py") 706), (.int 184 0), (.int 1 0), (.int 0 0), (.int 0 0), (.int 3 0), (.ref 283), (.bool true), (.int 276 0), (.ref 284), .none, (.ref 285), (.ref 286), (.ref 287), (.int 713 0), (.int 184 0), (.str (Str.ofString "/claim/cut.py") 714)].toArray, slots := [].toArray }) ::
  (nat_lit 289, { cls := (.type "function"), dict := none, data := .func (fnOf (Str.ofString "_law_events") (Str.ofString "_law_events") fLawEvents.1.1 fLawEvents.1.2.1 fLawEvents.1.2.2 .none .none .none (.str (Str.ofString "law_of0073_01") 702) none (.ref 288) .none), slots := [].toArray }) ::
  (nat_lit 290, { cls := (.type "tuple"), dict := none, data := .seq [].toArray 0, slots := [].toArray }) ::
  (nat_lit 292, { cls := (.type "tuple"), dict := none, data := .seq [(.str (Str.ofString "held") 719), (.str (Str.ofString "row") 720), (.str (Str.ofString "right") 721), (.str (Str.ofString "above") 722), (.str (Str.ofString "signs") 723)].toArray 0, slots := [].toArray }) ::
  (nat_lit 293, { cls := (.type "tuple"), dict := none, data := .seq [].toArray 0, slots := [].toArray }) ::
  (nat_lit 295, { cls := (.type "code"), dict := none, data := .fields [(.str (Str.ofString "_law_written") 716), (.str (Str.ofString "_law_written") 717), (.str (Str.ofString "/claim/cut.py") 718), (.int 192 0), (.int 1 0), (.int 0 0), (.int 0 0), (.int 3 0), (.ref 290), (.bool true), (.int 276 0), (.ref 291), .none, (.ref 292), (.ref 293), (.ref 294), (.int 724 0), (.int 192 0), (.str (Str.ofString "/claim/cut.py") 725)].toArray, slots := [].toArray }) ::
  (nat_lit 296, { cls := (.type "function"), dict := none, data := .func (fnOf (Str.ofString "_law_written") (Str.ofString "_law_written") fLawWritten.1.1 fLawWritten.1.2.1 fLawWritten.1.2.2 .none .none .none (.str (Str.ofString "law_of0073_01") 702) none (.ref 295) .none), slots := [].toArray }) ::
  (nat_lit 297, { cls := (.type "tuple"), dict := none, data := .seq [].toArray 0, slots := [].toArray }) ::
  (nat_lit 299, { cls := (.type "tuple"), dict := none, data := .seq [(.str (Str.ofString "hour") 730)].toArray 0, slots := [].toArray }) ::
  (nat_lit 300, { cls := (.type "tuple"), dict := none, data := .seq [].toArray 0, slots := [].toArray }) ::
  (nat_lit 302, { cls := (.type "code"), dict := none, data := .fields [(.str (Str.ofString "_law_hour") 727), (.str (Str.ofString "_law_hour") 728), (.str (Str.ofString "/claim/cut.py") 729), (.int 198 0), (.int 1 0), (.int 0 0), (.int 0 0), (.int 3 0), (.ref 297), (.bool true), (.int 276 0), (.ref 298), .none, (.ref 299), (.ref 300), (.ref 301), (.int 731 0), (.int 198 0), (.str (Str.ofString "/claim/cut.py") 732)].toArray, slots := [].toArray }) ::
  (nat_lit 303, { cls := (.type "function"), dict := none, data := .func (fnOf (Str.ofString "_law_hour") (Str.ofString "_law_hour") fLawHour.1.1 fLawHour.1.2.1 fLawHour.1.2.2 .none .none .none (.str (Str.ofString "law_of0073_01") 702) none (.ref 302) .none), slots := [].toArray }) ::
  (nat_lit 304, { cls := (.type "tuple"), dict := none, data := .seq [].toArray 0, slots := [].toArray }) ::
  (nat_lit 306, { cls := (.type "tuple"), dict := none, data := .seq [(.str (Str.ofString "events") 737), (.str (Str.ofString "log") 738), (.str (Str.ofString "plain") 739), (.str (Str.ofString "k") 740), (.str (Str.ofString "name") 741), (.str (Str.ofString "held") 742), (.str (Str.ofString "hour") 743), (.str (Str.ofString "row") 744)].toArray 0, slots := [].toArray }) ::
  (nat_lit 307, { cls := (.type "tuple"), dict := none, data := .seq [].toArray 0, slots := [].toArray }) ::
  (nat_lit 309, { cls := (.type "code"), dict := none, data := .fields [(.str (Str.ofString "_law_logged") 734), (.str (Str.ofString "_law_logged") 735), (.str (Str.ofString "/claim/cut.py") 736), (.int 200 0), (.int 1 0), (.int 0 0), (.int 0 0), (.int 3 0), (.ref 304), (.bool true), (.int 276 0), (.ref 305), .none, (.ref 306), (.ref 307), (.ref 308), (.int 745 0), (.int 200 0), (.str (Str.ofString "/claim/cut.py") 746)].toArray, slots := [].toArray }) ::
  (nat_lit 310, { cls := (.type "function"), dict := none, data := .func (fnOf (Str.ofString "_law_logged") (Str.ofString "_law_logged") fLawLogged.1.1 fLawLogged.1.2.1 fLawLogged.1.2.2 .none .none .none (.str (Str.ofString "law_of0073_01") 702) none (.ref 309) .none), slots := [].toArray }) ::
  (nat_lit 311, { cls := (.type "tuple"), dict := none, data := .seq [].toArray 0, slots := [].toArray }) ::
  (nat_lit 313, { cls := (.type "tuple"), dict := none, data := .seq [(.str (Str.ofString "event") 751), (.str (Str.ofString "k") 752)].toArray 0, slots := [].toArray }) ::
  (nat_lit 314, { cls := (.type "tuple"), dict := none, data := .seq [].toArray 0, slots := [].toArray }) ::
  (nat_lit 316, { cls := (.type "code"), dict := none, data := .fields [(.str (Str.ofString "_law_line") 748), (.str (Str.ofString "_law_line") 749), (.str (Str.ofString "/claim/cut.py") 750), (.int 211 0), (.int 2 0), (.int 0 0), (.int 0 0), (.int 3 0), (.ref 311), (.bool true), (.int 276 0), (.ref 312), .none, (.ref 313), (.ref 314), (.ref 315), (.int 753 0), (.int 211 0), (.str (Str.ofString "/claim/cut.py") 754)].toArray, slots := [].toArray }) ::
  (nat_lit 317, { cls := (.type "function"), dict := none, data := .func (fnOf (Str.ofString "_law_line") (Str.ofString "_law_line") fLawLine.1.1 fLawLine.1.2.1 fLawLine.1.2.2 .none .none .none (.str (Str.ofString "law_of0073_01") 702) none (.ref 316) .none), slots := [].toArray }) ::
  (nat_lit 318, { cls := (.type "tuple"), dict := none, data := .seq [].toArray 0, slots := [].toArray }) ::
  (nat_lit 320, { cls := (.type "tuple"), dict := none, data := .seq [(.str (Str.ofString "log") 759), (.str (Str.ofString "table") 760), (.str (Str.ofString "heap") 761), (.str (Str.ofString "popped") 762), (.str (Str.ofString "name") 763), (.str (Str.ofString "value") 764)].toArray 0, slots := [].toArray }) ::
  (nat_lit 321, { cls := (.type "tuple"), dict := none, data := .seq [].toArray 0, slots := [].toArray }) ::
  (nat_lit 323, { cls := (.type "code"), dict := none, data := .fields [(.str (Str.ofString "_law_table") 756), (.str (Str.ofString "_law_table") 757), (.str (Str.ofString "/claim/cut.py") 758), (.int 213 0), (.int 1 0), (.int 0 0), (.int 0 0), (.int 3 0), (.ref 318), (.bool true), (.int 276 0), (.ref 319), .none, (.ref 320), (.ref 321), (.ref 322), (.int 765 0), (.int 213 0), (.str (Str.ofString "/claim/cut.py") 766)].toArray, slots := [].toArray }) ::
  (nat_lit 324, { cls := (.type "function"), dict := none, data := .func (fnOf (Str.ofString "_law_table") (Str.ofString "_law_table") fLawTable.1.1 fLawTable.1.2.1 fLawTable.1.2.2 .none .none .none (.str (Str.ofString "law_of0073_01") 702) none (.ref 323) .none), slots := [].toArray }) ::
  (nat_lit 325, { cls := (.type "tuple"), dict := none, data := .seq [].toArray 0, slots := [].toArray }) ::
  (nat_lit 328, { cls := (.type "code"), dict := none, data := .fields [(.str (Str.ofString "_law_last") 768), (.str (Str.ofString "_law_last") 769), (.str (Str.ofString "/claim/cut.py") 770), (.int 221 0), (.int 1 0), (.int 0 0), (.int 0 0), (.int 3 0), (.ref 325), (.bool true), (.int 276 0), (.ref 326), .none, .none, .none, (.ref 327), (.int 771 0), (.int 221 0), (.str (Str.ofString "/claim/cut.py") 772)].toArray, slots := [].toArray }) ::
  (nat_lit 329, { cls := (.type "function"), dict := none, data := .func (fnOf (Str.ofString "_law_last") (Str.ofString "_law_last") fLawLast.1.1 fLawLast.1.2.1 fLawLast.1.2.2 .none .none .none (.str (Str.ofString "law_of0073_01") 702) none (.ref 328) .none), slots := [].toArray }) ::
  (nat_lit 330, { cls := (.type "tuple"), dict := none, data := .seq [].toArray 0, slots := [].toArray }) ::
  (nat_lit 333, { cls := (.type "code"), dict := none, data := .fields [(.str (Str.ofString "law") 774), (.str (Str.ofString "law") 775), (.str (Str.ofString "/claim/cut.py") 776), (.int 225 0), (.int 1 0), (.int 0 0), (.int 0 0), (.int 3 0), (.ref 330), (.bool true), (.int 276 0), (.ref 331), .none, .none, .none, (.ref 332), (.int 777 0), (.int 225 0), (.str (Str.ofString "/claim/cut.py") 778)].toArray, slots := [].toArray }) ::
  (nat_lit 334, { cls := (.type "function"), dict := none, data := .func (fnOf (Str.ofString "law") (Str.ofString "law") fLaw.1.1 fLaw.1.2.1 fLaw.1.2.2 .none .none .none (.str (Str.ofString "law_of0073_01") 702) none (.ref 333) .none), slots := [].toArray }) ::
  []
noncomputable def adrs : List Addr := [3, 32, 34, 35, 37, 38, 42, 43, 47, 48, 52, 53, 54, 55, 57, 58, 60, 61, 69, 70, 72, 73, 75, 76, 77, 79, 80, 82, 83, 84, 86, 87, 89, 90, 91, 93, 94, 96, 97, 98, 101, 102, 103, 105, 106, 108, 109, 110, 112, 113, 115, 116, 117, 120, 121, 122, 123, 125, 126, 128, 129, 130, 133, 134, 135, 138, 139, 140, 142, 143, 145, 146, 147, 149, 150, 152, 153, 154, 157, 158, 159, 161, 162, 164, 165, 166, 168, 169, 171, 172, 173, 175, 176, 178, 179, 180, 181, 182, 183, 184, 187, 189, 190, 192, 193, 194, 196, 197, 199, 200, 201, 203, 204, 206, 207, 208, 210, 211, 213, 214, 215, 217, 218, 220, 221, 222, 224, 225, 227, 228, 229, 231, 232, 234, 235, 236, 238, 239, 241, 242, 243, 244, 245, 246, 247, 248, 249, 250, 251, 252, 253, 254, 255, 256, 257, 258, 259, 260, 261, 262, 263, 264, 265, 266, 267, 268, 269, 270, 271, 272, 273, 274, 275, 276, 278, 279, 281, 282, 283, 285, 286, 288, 289, 290, 292, 293, 295, 296, 297, 299, 300, 302, 303, 304, 306, 307, 309, 310, 311, 313, 314, 316, 317, 318, 320, 321, 323, 324, 325, 328, 329, 330, 333, 334]
theorem adrs_eq (P : Params) : adrs = (K P).map (·.1) := by kernel_rfl
noncomputable def view9 : Program := view prog [0, 47]
noncomputable def loose : List Str := [Str.ofString "_wall", Str.ofString "tspecials", Str.ofString "_name_disallowed_re", Str.ofString "_value_disallowed_re", Str.ofString "_formatparam", Str.ofString "Headers", Str.ofString "heappush", Str.ofString "heappop", Str.ofString "_siftdown", Str.ofString "_siftup", Str.ofString "S_IFMT", Str.ofString "S_IFDIR", Str.ofString "S_IFCHR", Str.ofString "S_IFBLK", Str.ofString "S_IFREG", Str.ofString "S_IFIFO", Str.ofString "S_IFLNK", Str.ofString "S_IFSOCK", Str.ofString "S_ISDIR", Str.ofString "S_ISREG", Str.ofString "S_ISLNK", Str.ofString "S_ISUID", Str.ofString "S_ISGID", Str.ofString "S_ISVTX", Str.ofString "S_IRUSR", Str.ofString "S_IWUSR", Str.ofString "S_IXUSR", Str.ofString "S_IRGRP", Str.ofString "S_IWGRP", Str.ofString "S_IXGRP", Str.ofString "S_IROTH", Str.ofString "S_IWOTH", Str.ofString "S_IXOTH", Str.ofString "_filemode_table", Str.ofString "filemode", Str.ofString "_law_events", Str.ofString "_law_written", Str.ofString "_law_hour", Str.ofString "_law_logged", Str.ofString "_law_line", Str.ofString "_law_table", Str.ofString "_law_last"]
noncomputable abbrev H : Hook := kHook K adrs adrs_eq
noncomputable abbrev Xt (s : Shared) : Bool := xlAt view9 [] s && recOk (RowW.records PySem.Challenge.rw_of0073_01.row.toRowW) s
set_option maxHeartbeats 0 in
theorem left : LeftO prog view9 loose Xt (Hook.obs H) (Hook.val H) 3940 := by
  intro w
  unfold openEnds fencedOpening topFrom
  rw [PySem.W.Fast.te10274390034422433532, PySem.W.Fast.te14289696077712309145, PySem.W.Fast.te1435165496053646825, PySem.W.Fast.te14082659384304107361, PySem.W.Fast.te4187177175401517315, PySem.W.Fast.te14364793385576792824]
  kernel_rfl
end
section
theorem said : PySem.Challenge.rw_of0073_01.wellSaid = true := by kernel_rfl
@[reducible] noncomputable def lawD : {x // defOf view9 (Str.ofString "law") = some x} := ⟨_, rfl⟩
theorem hd (hc : WalkO view9 loose (XL view9 []) (Hook.says H) PySem.Challenge.rw_of0073_01.row.toRowW lawD.1.1 lawD.1.2 fun f vs => PySem.call f vs) : PySem.Challenge.rw_of0073_01.Holds := by
  w_on
  refine holds_law said fun said' => ?_
  refine holds_open (q := view9) (loose := loose) (Xt := Xt) (XP := XL view9 []) (Yf := Hook.obs H) (Ya := Hook.val H) (YP := Hook.says H) (N := 3940) left (Hook.of H) (Hook.keeps H) (fun s e => xl_of s (Bool.and_eq_true_iff.mp e).1) XL.keeps lawD.2 (by rfl) (by rfl) (fun s e => recFacts_of (Bool.and_eq_true_iff.mp e).2) (by rfl) (by assumption) (by decide +kernel) ⟨rfl, rfl, rfl, rfl, rfl, by decide +kernel⟩ ?hw hc
  case hw => w_witness2
theorem nOk : namesOk view9 (looseW view9 loose) (namesW view9 loose) = true := by
  rw [PySem.W.Fast.te17448422675489707002, PySem.W.Fast.te821141287760084731]
  kernel_rfl
theorem iOk : importsNone view9 = true := by
  rw [PySem.W.Fast.te2458874890965802552]
  kernel_rfl
end
section
theorem cj0 {a b  : Prop} (h : a ∧ b) : a := h.1
theorem cj1 {a b x1 : Prop} (h : x1 ∧ a ∧ b) : a := h.2.1
theorem cj2 {a b x1 x2 : Prop} (h : x1 ∧ x2 ∧ a ∧ b) : a := h.2.2.1
theorem cj3 {a b x1 x2 x3 : Prop} (h : x1 ∧ x2 ∧ x3 ∧ a ∧ b) : a := h.2.2.2.1
theorem cj4 {a b x1 x2 x3 x4 : Prop} (h : x1 ∧ x2 ∧ x3 ∧ x4 ∧ a ∧ b) : a := h.2.2.2.2.1
theorem cj5 {a b x1 x2 x3 x4 x5 : Prop} (h : x1 ∧ x2 ∧ x3 ∧ x4 ∧ x5 ∧ a ∧ b) : a := h.2.2.2.2.2.1
theorem cj6 {a b x1 x2 x3 x4 x5 x6 : Prop} (h : x1 ∧ x2 ∧ x3 ∧ x4 ∧ x5 ∧ x6 ∧ a ∧ b) : a := h.2.2.2.2.2.2.1
theorem cj7 {a b x1 x2 x3 x4 x5 x6 x7 : Prop} (h : x1 ∧ x2 ∧ x3 ∧ x4 ∧ x5 ∧ x6 ∧ x7 ∧ a ∧ b) : a := h.2.2.2.2.2.2.2.1
theorem cj8 {a b x1 x2 x3 x4 x5 x6 x7 x8 : Prop} (h : x1 ∧ x2 ∧ x3 ∧ x4 ∧ x5 ∧ x6 ∧ x7 ∧ x8 ∧ a ∧ b) : a := h.2.2.2.2.2.2.2.2.1
theorem cj9 {a b x1 x2 x3 x4 x5 x6 x7 x8 x9 : Prop} (h : x1 ∧ x2 ∧ x3 ∧ x4 ∧ x5 ∧ x6 ∧ x7 ∧ x8 ∧ x9 ∧ a ∧ b) : a := h.2.2.2.2.2.2.2.2.2.1
theorem cj10 {a b x1 x2 x3 x4 x5 x6 x7 x8 x9 x10 : Prop} (h : x1 ∧ x2 ∧ x3 ∧ x4 ∧ x5 ∧ x6 ∧ x7 ∧ x8 ∧ x9 ∧ x10 ∧ a ∧ b) : a := h.2.2.2.2.2.2.2.2.2.2.1
theorem cj11 {a b x1 x2 x3 x4 x5 x6 x7 x8 x9 x10 x11 : Prop} (h : x1 ∧ x2 ∧ x3 ∧ x4 ∧ x5 ∧ x6 ∧ x7 ∧ x8 ∧ x9 ∧ x10 ∧ x11 ∧ a ∧ b) : a := h.2.2.2.2.2.2.2.2.2.2.2.1
theorem cj12 {a b x1 x2 x3 x4 x5 x6 x7 x8 x9 x10 x11 x12 : Prop} (h : x1 ∧ x2 ∧ x3 ∧ x4 ∧ x5 ∧ x6 ∧ x7 ∧ x8 ∧ x9 ∧ x10 ∧ x11 ∧ x12 ∧ a ∧ b) : a := h.2.2.2.2.2.2.2.2.2.2.2.2.1
theorem cj13 {a b x1 x2 x3 x4 x5 x6 x7 x8 x9 x10 x11 x12 x13 : Prop} (h : x1 ∧ x2 ∧ x3 ∧ x4 ∧ x5 ∧ x6 ∧ x7 ∧ x8 ∧ x9 ∧ x10 ∧ x11 ∧ x12 ∧ x13 ∧ a ∧ b) : a := h.2.2.2.2.2.2.2.2.2.2.2.2.2.1
theorem rm0 {a k l : Nat} (h : a + k < l) : a < l := Nat.lt_of_le_of_lt (Nat.le_add_right a k) h
theorem rm1 {a j k l : Nat} (h : a + k < l) (e : j ≤ k) : a + j < l := Nat.lt_of_le_of_lt (Nat.add_le_add_left e a) h
theorem rm2 {a i j k l : Nat} (h : a + k < l) (e : i + j ≤ k) : a + i + j < l := by rw [Nat.add_assoc]; exact rm1 h e
theorem rm3 {a g i j k l : Nat} (h : a + k < l) (e : g + i + j ≤ k) : a + g + i + j < l := by rw [Nat.add_assoc, Nat.add_assoc, ← Nat.add_assoc g]; exact rm1 h e
theorem rm4 {a f g i j k l : Nat} (h : a + k < l) (e : f + g + i + j ≤ k) : a + f + g + i + j < l := by rw [show a + f + g + i + j = a + (f + g + i + j) by omega]; exact rm1 h e
theorem le_eq9 {a b c d : Nat} (h : a = b) (h2 : b ≤ c) (e : c ≤ d) : a ≤ d := h ▸ Nat.le_trans h2 e
theorem le_eq8 {a b c d e : Nat} (h : a = b) (h1 : b < c) (h2 : c ≤ d) (h3 : d ≤ e) : a ≤ e := h ▸ Nat.le_trans (Nat.le_of_lt h1) (Nat.le_trans h2 h3)
theorem lt_eq9 {a b c : Nat} (h : b = c) (h2 : a < c) : a < b := h.symm ▸ h2
end
section
theorem fillK : (PySem.Challenge.rw_of0073_01, K) = (PySem.Challenge.rw_of0073_01, K) := by k_fill; rfl
noncomputable abbrev Led := List (Addr × Obj)
/-- what was, off the addresses, is -/
noncomputable def Keep (h h' : Heap) (adr : List Addr) : Prop := ∀ b o, h.get? b = some o → b ∉ adr → h'.get? b = some o
/-- what is asked behind a call that hands back v and a ledger -/
noncomputable def Back (h₀ : Heap) (L : Addr) (m : Str → Option Value) (s : Shared) (cells : Led) (Post : Led → Value → Prop) (Q : Value → Shared → Prop) : Prop :=
  ∀ v h' tk news', Fr h₀ L h' m → News h₀ L h' news' → Keep s.heap h' (cells.map (·.1)) → Post news' v → Q v { s with heap := h', toks := tk }
/-- a contract of a def: the objects that it may write, what it hands back -/
noncomputable def Ctr (w : World) (f : Addr) (pos : List Value) (kw : List (Str × Value)) (d u : Nat) (cells : Led) (Post : Led → Value → Prop) : Prop :=
  ∀ (p : Program) (loose : List Str) (mean : ExcName → Option Value) (mg mb : Str → Option Value) (dp un : Nat) (gd : Option (List Code)) (cn : Str) (cs : Scope) (a : Addr) (ccd : Value) (cl : List (Str × Addr)) (outer : List Env)
    (A₀ : Around) (base h₀ : Heap) (L : Addr) (m : Str → Option Value) (s : Shared) (Q E : Value → Shared → Prop),
    Below A₀ base outer h₀ → Fr h₀ L s.heap m → (K w.params).In h₀ → News h₀ L s.heap cells → Top p loose mean mg mb h₀ → cs.kind = .function → dp + d < recursionLimit → un + u < cLine → Back h₀ L m s cells Post Q →
    wpAny (model prog w) (ktrTop dp un gd cn cs L a ccd cl outer) (call (.ref f) pos kw) Q E s
theorem leave_back {h₀ g : Heap} {L L' : Addr} {m m' : Str → Option Value} {s s' : Shared} {cells news' : Led} {Post : Led → Value → Prop} {Q E : Value → Shared → Prop} {v : Value}
    (hb : Back h₀ L m s cells Post Q) (F' : Fr g L' s'.heap m') (N' : News g L' s'.heap news') (kG : GSub s.heap g (cells.map (·.1))) (es : s' = { s with heap := s'.heap, toks := s'.toks }) (hp : Post news' v) :
    LeaveK h₀ L m g (fun r s' => match r with | .ok (.ret v) => Q v s' | .ok _ => False | .error e => E e s') v s' :=
  leaveK_ F' N' fun kF kN => es ▸ hb v s'.heap s'.toks news' kF kN (fun b o e n => F'.keep b o (kG b o e n)) hp
/-- the same where the whole ledger is handed over: nothing is said of what lies off it -/
noncomputable def BackL (h₀ : Heap) (L : Addr) (m : Str → Option Value) (s : Shared) (Post : Led → Value → Prop) (Q : Value → Shared → Prop) : Prop :=
  ∀ v h' tk news', Fr h₀ L h' m → News h₀ L h' news' → Post news' v → Q v { s with heap := h', toks := tk }
noncomputable def CtrL (w : World) (f : Addr) (pos : List Value) (kw : List (Str × Value)) (d u : Nat) (led : Led) (Post : Led → Value → Prop) : Prop :=
  ∀ (p : Program) (loose : List Str) (mean : ExcName → Option Value) (mg mb : Str → Option Value) (dp un : Nat) (gd : Option (List Code)) (cn : Str) (cs : Scope) (a : Addr) (ccd : Value) (cl : List (Str × Addr)) (outer : List Env)
    (A₀ : Around) (base h₀ : Heap) (L : Addr) (m : Str → Option Value) (s : Shared) (Q E : Value → Shared → Prop),
    Below A₀ base outer h₀ → Fr h₀ L s.heap m → (K w.params).In h₀ → News h₀ L s.heap led → Top p loose mean mg mb h₀ → cs.kind = .function → dp + d < recursionLimit → un + u < cLine → BackL h₀ L m s Post Q →
    wpAny (model prog w) (ktrTop dp un gd cn cs L a ccd cl outer) (call (.ref f) pos kw) Q E s
theorem leave_backL {h₀ g : Heap} {L L' : Addr} {m m' : Str → Option Value} {s s' : Shared} {news' : Led} {Post : Led → Value → Prop} {Q E : Value → Shared → Prop} {v : Value}
    (hb : BackL h₀ L m s Post Q) (F' : Fr g L' s'.heap m') (N' : News g L' s'.heap news') (es : s' = { s with heap := s'.heap, toks := s'.toks }) (hp : Post news' v) :
    LeaveK h₀ L m g (fun r s' => match r with | .ok (.ret v) => Q v s' | .ok _ => False | .error e => E e s') v s' :=
  leaveK_ F' N' fun kF kN => es ▸ hb v s'.heap s'.toks news' kF kN hp
theorem News.sub {h₀ h : Heap} {L : Addr} {news news' : Led} (N : News h₀ L h news) (hs : ∀ p ∈ news', p ∈ news) : News h₀ L h news' := fun p hp => N p (hs p hp)
theorem News.keep {h₀ h h' : Heap} {L : Addr} {rest : Led} {adr : List Addr} (N : News h₀ L h rest) (k : Keep h h' adr) (ho : ∀ p ∈ rest, p.1 ∉ adr) : News h₀ L h' rest :=
  fun p hp => ⟨k _ _ (N p hp).1 (ho p hp), (N p hp).2⟩
theorem News.app {h₀ h : Heap} {L : Addr} {n₁ n₂ : Led} (N₁ : News h₀ L h n₁) (N₂ : News h₀ L h n₂) : News h₀ L h (n₁ ++ n₂) :=
  fun p hp => (List.mem_append.mp hp).elim (N₁ p) (N₂ p)
theorem unr_end {h₀ : Heap} {L : Addr} {its all : Led} {rest : (Str → Option Value) → Led → Prop} {s₁ : Shared} {h' : Heap} {tk : Nat} {m' : Str → Option Value} (F : Fr h₀ L h' m') (N : News h₀ L h' all) (news' : Led)
    (h1 : ∀ p ∈ its ++ news', p ∈ all) (h2 : ∀ p ∈ news', ∀ q ∈ its, p.1 ≠ q.1) (r : rest m' news') : UnrEndW h₀ L s₁ its rest { s₁ with heap := h', toks := tk } := ⟨h', tk, m', news', rfl, F, News.sub N h1, h2, r⟩
theorem unr_end1 {h₀ : Heap} {L i : Addr} {o : Obj} {news' : Led} {rest : (Str → Option Value) → Led → Prop} {s₁ : Shared} {h' : Heap} {tk : Nat} {m' : Str → Option Value} (F : Fr h₀ L h' m') (N : News h₀ L h' ((i, o) :: news'))
    (off : ∀ p ∈ news', p.1 ≠ i) (r : rest m' news') : UnrEndW h₀ L s₁ [(i, o)] rest { s₁ with heap := h', toks := tk } :=
  ⟨h', tk, m', news', rfl, F, N, fun p hp q hq => by rw [List.mem_singleton.mp hq]; exact off p hp, r⟩
section
variable {w : World} {f : Addr} {pos : List Value} {kw : List (Str × Value)} {d u : Nat} {cells all rest : Led} {Post : Led → Value → Prop}
  {p : Program} {loose : List Str} {mean : ExcName → Option Value} {mg mb : Str → Option Value} {dp un : Nat} {gd : Option (List Code)} {cn : Str} {cs : Scope} {a : Addr} {ccd : Value} {cl : List (Str × Addr)} {outer : List Env}
  {A₀ : Around} {base h₀ : Heap} {L : Addr} {m : Str → Option Value} {s : Shared} {Q E : Value → Shared → Prop}
/-- a call of a def that writes nothing of ours -/
theorem use_pure (S : Ctr w f pos kw d u [] Post) (B : Below A₀ base outer h₀) (F : Fr h₀ L s.heap m) (X : (K w.params).In h₀) (N : News h₀ L s.heap all) (T : Top p loose mean mg mb h₀) (hk : cs.kind = .function) (hd : dp + d < recursionLimit) (hu : un + u < cLine)
    (h : ∀ v h' tk, Fr h₀ L h' m → News h₀ L h' all → (∃ n', Post n' v) → Q v { s with heap := h', toks := tk }) :
    wpAny (model prog w) (ktrTop dp un gd cn cs L a ccd cl outer) (call (.ref f) pos kw) Q E s :=
  S _ _ _ _ _ _ _ _ _ _ _ _ _ _ _ _ _ _ _ _ _ _ B F X (fun _ hp => nomatch hp) T hk hd hu fun v h' tk news' F' _ k hp => h v h' tk F' (News.keep N k fun _ _ => List.not_mem_nil) ⟨news', hp⟩
theorem use_gen (S : Ctr w f pos kw d u cells Post) (B : Below A₀ base outer h₀) (F : Fr h₀ L s.heap m) (X : (K w.params).In h₀) (N : News h₀ L s.heap all) (T : Top p loose mean mg mb h₀) (hk : cs.kind = .function) (hd : dp + d < recursionLimit) (hu : un + u < cLine)
    (hm : ∀ p ∈ cells, p ∈ all) (rest : Led) (hr : ∀ p ∈ rest, p ∈ all) (hro : ∀ p ∈ rest, p.1 ∉ cells.map (·.1))
    (h : ∀ v h' tk news', Fr h₀ L h' m → News h₀ L h' (news' ++ rest) → Post news' v → Q v { s with heap := h', toks := tk }) :
    wpAny (model prog w) (ktrTop dp un gd cn cs L a ccd cl outer) (call (.ref f) pos kw) Q E s :=
  S _ _ _ _ _ _ _ _ _ _ _ _ _ _ _ _ _ _ _ _ _ _ B F X (News.sub N hm) T hk hd hu fun v h' tk news' F' N' k hp => h v h' tk news' F' (News.app N' (News.keep (News.sub N hr) k hro)) hp
end
theorem gen_toks {α : Type} {M : Model} {A : Around} {t : Sem α} {Q : α → Shared → Prop} {E : Value → Shared → Prop} {h : Heap} {g : Array GenState} {d : Drawn} {k : Nat} {o : OsState} (hk : 0 < k)
    (H : ∀ tk, 0 < tk → wpAny M A t Q E ⟨h, g, d, tk, o⟩) : wpAny M A t Q E ⟨h, g, d, k, o⟩ := H k hk
theorem replace_no {prog : Program} {w : World} {A : Around} {E : Value → Shared → Prop} {s : Shared} {x y z : Str} {t u v : Tok} {Q : Value → Shared → Prop} (h : Builtin.Str.occurrences x y 0 x.length (x.length + 1) = []) (hq : Q (.str x t) s) :
    wpAny (model prog w) A (call (.builtin "str.replace") [.str x t, .str y u, .str z v]) Q E s := by
  refine call_gives F.slot_str_replace (typeIs_str _ _ _) F.entry_str_replace (F.args_str_replace_3 _ _ _) (gives_str_replace x y z t u v fun hf => ?_) ?_
  · rw [h] at hf; cases hf
  · rw [h]; exact hq
/-- the post of a scalar -/
noncomputable def IsStr (x : Str) (_ : Led) (v : Value) : Prop := ∃ t, v = .str x t
noncomputable def IsInt (i : Int) (_ : Led) (v : Value) : Prop := ∃ t, v = .int i t
noncomputable def IsBool (b : Bool) (_ : Led) (v : Value) : Prop := v = .bool b
theorem IsStr.mk {x y : Str} {n : Led} {t : Tok} (e : y = x) : IsStr x n (.str y t) := ⟨t, by rw [e]⟩
theorem IsInt.mk {x y : Int} {n : Led} {t : Tok} (e : y = x) : IsInt x n (.int y t) := ⟨t, by rw [e]⟩
theorem IsBool.mk {x y : Bool} {n : Led} (e : y = x) : IsBool x n (.bool y) := by rw [IsBool, e]
end
section
/-- a sign that both patterns let by -/
noncomputable def okc (c : Nat) : Prop := 32 ≤ c ∧ c ≤ 126
noncomputable def nameCode : Array Nat := #[14, 10, 4, 1, 1, 22, 0, 31, 16, 127, 0, 13, 7, 22, 0, 31, 16, 127, 0, 1]
noncomputable def valueCode : Array Nat := #[14, 14, 4, 1, 1, 9, 4294966783, 0, 0, 2147483648, 0, 0, 0, 0, 0, 13, 11, 9, 4294966783, 0, 0, 2147483648, 0, 0, 0, 0, 0, 1]
noncomputable def Lets (code : Array Nat) : Prop := ∀ c, okc c → ∀ seen, ∃ seen', Sre.inSet code c code.size 5 true seen = .ok (false, seen')
theorem lets_name : Lets nameCode := by
  intro c hc seen
  obtain ⟨h1, h2⟩ := hc
  refine ⟨((seen.add 22).add 16).add 0, ?_⟩
  have e1 : (decide (0 ≤ c) && decide (c ≤ 31)) = false := by simp; omega
  have e2 : (c == 127) = false := by simp; omega
  show (if (decide (0 ≤ c) && decide (c ≤ 31)) = true then _ else (if (c == 127) = true then _ else _)) = _
  rw [e1, e2]
  rfl
theorem word_bits : ∀ c, c < 127 → 32 ≤ c → ((valueCode.getD (5 + (1 + c / 32)) 0).testBit (c % 32)) = false := by decide +kernel
theorem lets_value : Lets valueCode := by
  intro c hc seen
  obtain ⟨h1, h2⟩ := hc
  refine ⟨(seen.add 9).add 0, ?_⟩
  have e1 := word_bits c (by omega) h1
  show (if (decide (c < 256) && ((valueCode.getD (5 + (1 + c / 32)) 0).testBit (c % 32))) = true then _ else _) = _
  rw [e1, Bool.and_false]
  rfl
theorem admitted_none {m : Sre.M} (hl : Lets m.code) (ht : ∀ i, i < m.lim → okc (m.text.getD i 0)) : ∀ fuel s seen, ∃ seen', Sre.M.admitted m fuel s seen = .ok (none, seen')
  | 0, _, seen => ⟨seen, rfl⟩
  | fuel + 1, s, seen => by
    unfold Sre.M.admitted
    by_cases h : s ≥ m.lim
    · rw [if_pos h]; exact ⟨seen, rfl⟩
    · rw [if_neg h]
      obtain ⟨seen', e⟩ := hl _ (ht s (by omega)) seen
      rw [e]
      exact admitted_none hl ht fuel (s + 1) seen'
theorem adm {code text : Array Nat} {m : Sre.M} {fuel s : Nat} {seen : Sre.Seen} {r : Except String (Option Nat × Sre.Seen)} (hl : Lets code) (ht : ∀ i, i < text.size → okc (text.getD i 0)) (hc : m.code = code) (hx : m.text = text) (hm : m.lim = text.size)
    (h : Sre.M.admitted m fuel s seen = r) : ∃ seen', r = .ok (none, seen') := by
  subst hc hx
  obtain ⟨seen', e⟩ := admitted_none (m := m) hl (by rw [hm]; exact ht) fuel s seen
  exact ⟨seen', h.symm.trans e⟩
theorem search_fails {code text : Array Nat} (hl : Lets code) (hh : Sre.header code = (1, 1 + code.getD 1 0)) (hi : Sre.ops[code.getD 0 0]? = some .INFO) (hf : code.getD 2 0 = 4) (ht : ∀ i, i < text.size → okc (text.getD i 0)) :
    ∃ m, Sre.forSearch code text 0 0 text.size false = m ∧ m.answer = some false ∧ m.frames = [] ∧ m.outcome = none := by
  refine ⟨_, rfl, ?_⟩
  unfold Sre.forSearch
  dsimp only
  rw [hh]
  dsimp only
  split
  · exact ⟨rfl, rfl, rfl⟩
  · unfold Sre.M.attemptFrom
    have hs : ∀ m : Sre.M, m.code = code → m.hasFirstSet = true := fun m e => by
      unfold Sre.M.hasFirstSet
      rw [e, hi, hf]; rfl
    rw [hs _ rfl]
    simp only [Bool.not_true, Bool.false_eq_true, if_false]
    split
    · rename_i h
      obtain ⟨seen', e⟩ := adm hl ht rfl rfl rfl h
      cases e
    · exact ⟨rfl, rfl, rfl⟩
    · rename_i h
      obtain ⟨seen', e⟩ := adm hl ht rfl rfl rfl h
      cases e
theorem run_fails {m : Sre.M} (h1 : m.answer = some false) (h2 : m.frames = []) (h3 : m.outcome = none) : ∃ m', Sre.M.runFor 4 m = m' ∧ m'.outcome = some .failed := by
  refine ⟨_, rfl, ?_⟩
  have e : m.step = { m with outcome := some .failed } := by
    unfold Sre.M.step
    rw [h3, h1, h2]
    rfl
  unfold Sre.M.runFor
  rw [h3]
  simp only [Option.isSome_none, Bool.false_eq_true, if_false]
  rw [e]
  unfold Sre.M.runFor
  rfl
section
variable {prog : Program} {w : World} {A : Around} {E : Value → Shared → Prop} {s : Shared}
theorem wp_rules {m : Sre.M} {Q : PUnit → Shared → Prop} (h : Q ⟨⟩ s) : ∀ l : List Nat, wpAny (model prog w) A (forIn l PUnit.unit fun i _ => (if m.seen.has i = true then do rule (Sre.names.getD i ""); pure (ForInStep.yield PUnit.unit) else pure (ForInStep.yield PUnit.unit) : Sem (ForInStep PUnit))) Q E s
  | [] => wpAny_pure h
  | a :: l => by
    rw [List.forIn_cons]
    refine wpAny_bind ?_
    by_cases c : m.seen.has a = true
    · rw [if_pos c]
      exact wpAny_bind (wpAny_rule (wpAny_pure (wp_rules h l)))
    · rw [if_neg c]
      exact wpAny_pure (wp_rules h l)
theorem wp_end {m : Sre.M} (h1 : m.answer = some false) (h2 : m.frames = []) (h3 : m.outcome = none) {Q : Option Sre.M → Shared → Prop} (h : Q none s) :
    wpAny (model prog w) A (Builtin.Re.reRunToEnd m) Q E s := by
  unfold Builtin.Re.reRunToEnd
  refine wpAny_bind ?_
  obtain ⟨m', e, ho⟩ := run_fails h1 h2 h3
  have e2 : Builtin.Re.reDrive (2 ^ 64) m = pure m' := by
    show Builtin.Re.reDrive (18446744073709551615 + 1) m = _
    unfold Builtin.Re.reDrive
    show (if (Sre.M.runFor 4 m).outcome.isSome = true then pure (Sre.M.runFor 4 m) else _) = _
    rw [e, ho]
    rfl
  rw [e2]
  refine wpAny_pure (wpAny_bind ?_)
  refine wp_rules ?_ _
  rw [ho]
  exact wpAny_pure h
end
end
section
theorem entry_search : entryFor table "re.Pattern.search" = some Builtin.«re.Pattern.search» := entryFor_of_tree (by kernel_rfl)
theorem check_search1 (P : Params) (x : Str) (t : Tok) : peek (K P) ⟨prog, P⟩ (checkBuiltinCall "re.Pattern.search" ⟨[.ref 48, .str x t], []⟩) = some () := by kernel_rfl
theorem check_search2 (P : Params) (x : Str) (t : Tok) : peek (K P) ⟨prog, P⟩ (checkBuiltinCall "re.Pattern.search" ⟨[.ref 53, .str x t], []⟩) = some () := by kernel_rfl
theorem target1 (P : Params) (x : Str) (t : Tok) : peek (K P) ⟨prog, P⟩ (Builtin.Re.reTarget "re.Pattern.search" "search" ⟨[.ref 48, .str x t], []⟩) =
    some { pattern := .ref 48, string := .str x t, code := nameCode, text := x.cps, kind := 0, groups := 0, pos := min (Int.toNat 0) x.cps.size, lim := min (Int.toNat (2 ^ 63 - 1)) x.cps.size } := by kernel_rfl
theorem target2 (P : Params) (x : Str) (t : Tok) : peek (K P) ⟨prog, P⟩ (Builtin.Re.reTarget "re.Pattern.search" "search" ⟨[.ref 53, .str x t], []⟩) =
    some { pattern := .ref 53, string := .str x t, code := valueCode, text := x.cps, kind := 0, groups := 0, pos := min (Int.toNat 0) x.cps.size, lim := min (Int.toNat (2 ^ 63 - 1)) x.cps.size } := by kernel_rfl
theorem meth1 (P : Params) (pl : Sem Bool) : peek (K P) ⟨prog, P⟩ (getMethod (.ref 48) (Str.ofString "search") pl) = some (.builtin "re.Pattern.search", [.ref 48]) := by kernel_rfl
theorem meth2 (P : Params) (pl : Sem Bool) : peek (K P) ⟨prog, P⟩ (getMethod (.ref 53) (Str.ofString "search") pl) = some (.builtin "re.Pattern.search", [.ref 53]) := by kernel_rfl
/-- a text of plain signs -/
noncomputable def Plain (x : Str) : Prop := ∀ c ∈ x.cps.toList, okc c
theorem Plain.at {x : Str} (h : Plain x) : ∀ i, i < x.cps.size → okc (x.cps.getD i 0) := fun i hi => by
  have e : x.cps.getD i 0 = x.cps[i] := by simp [Array.getD, hi]
  rw [e]
  exact h _ (by simp)
section
variable {w : World} {A : Around} {E : Value → Shared → Prop} {s : Shared} {h₀ : Heap} {L : Addr} {m : Str → Option Value}
theorem search_ends {t : Builtin.Re.ReTarget} {Q : Fin → Shared → Prop} {code : Array Nat} (hl : Lets code) (hh : Sre.header code = (1, 1 + code.getD 1 0)) (hi : Sre.ops[code.getD 0 0]? = some .INFO) (hf : code.getD 2 0 = 4)
    (hsz : t.text.size < 2 ^ 62) (ht : ∀ i, i < t.text.size → okc (t.text.getD i 0)) (e1 : t.code = code) (e2 : t.groups = 0) (e3 : t.pos = min (Int.toNat 0) t.text.size) (e4 : t.lim = min (Int.toNat (2 ^ 63 - 1)) t.text.size)
    (h : Q (.done (.ret .none)) s) : wpAny (model prog w) A (Builtin.Re.reAnswer t (Sre.forSearch t.code t.text t.groups t.pos t.lim false)) Q E s := by
  have p0 : t.pos = 0 := by rw [e3]; simp
  have pl : t.lim = t.text.size := by
    rw [e4]
    have : Int.toNat (2 ^ 63 - 1) = 9223372036854775807 := rfl
    rw [this]
    omega
  unfold Builtin.Re.reAnswer
  rw [e1, e2, p0, pl]
  obtain ⟨mm, e, q1, q2, q3⟩ := search_fails (text := t.text) hl hh hi hf ht
  rw [e]
  exact wpAny_bind (wp_end q1 q2 q3 (wpAny_pure h))
theorem call_search1 {x : Str} {t : Tok} {Q : Value → Shared → Prop} (F : Fr h₀ L s.heap m) (X : (K w.params).In h₀) (hx : Plain x) (hsz : x.length ≤ 1000000) (h : Q .none s) :
    wpAny (model prog w) A (call (.builtin "re.Pattern.search") [.ref 48, .str x t]) Q E s := by
  have X' := X.keeps F.keep
  refine wpAny_call (codeAny_call_builtin (by decide +kernel) entry_search (Looks.here (Looks.of_peek X' (check_search1 _ _ _)) ?_))
  show wpAny _ _ (Builtin.Re.reTarget "re.Pattern.search" "search" ⟨[.ref 48, .str x t], []⟩ >>= fun t => _) _ _ _
  refine wpAny_bind (Looks.here (Looks.of_peek X' (target1 _ _ _)) ?_)
  exact search_ends lets_name rfl rfl rfl (by show x.cps.size < _; have : x.cps.size = x.length := rfl; omega) (Plain.at hx) rfl rfl rfl rfl h
theorem call_search2 {x : Str} {t : Tok} {Q : Value → Shared → Prop} (F : Fr h₀ L s.heap m) (X : (K w.params).In h₀) (hx : Plain x) (hsz : x.length ≤ 1000000) (h : Q .none s) :
    wpAny (model prog w) A (call (.builtin "re.Pattern.search") [.ref 53, .str x t]) Q E s := by
  have X' := X.keeps F.keep
  refine wpAny_call (codeAny_call_builtin (by decide +kernel) entry_search (Looks.here (Looks.of_peek X' (check_search2 _ _ _)) ?_))
  show wpAny _ _ (Builtin.Re.reTarget "re.Pattern.search" "search" ⟨[.ref 53, .str x t], []⟩ >>= fun t => _) _ _ _
  refine wpAny_bind (Looks.here (Looks.of_peek X' (target2 _ _ _)) ?_)
  exact search_ends lets_value rfl rfl rfl (by show x.cps.size < _; have : x.cps.size = x.length := rfl; omega) (Plain.at hx) rfl rfl rfl rfl h
theorem get_search1 {pl : Sem Bool} {Q : Value × List Value → Shared → Prop} (F : Fr h₀ L s.heap m) (X : (K w.params).In h₀) (h : Q (.builtin "re.Pattern.search", [.ref 48]) s) :
    wpAny (model prog w) A (getMethod (.ref 48) (Str.ofString "search") pl) Q E s := Looks.here (Looks.of_peek (X.keeps F.keep) (meth1 _ _)) h
theorem get_search2 {pl : Sem Bool} {Q : Value × List Value → Shared → Prop} (F : Fr h₀ L s.heap m) (X : (K w.params).In h₀) (h : Q (.builtin "re.Pattern.search", [.ref 53]) s) :
    wpAny (model prog w) A (getMethod (.ref 53) (Str.ofString "search") pl) Q E s := Looks.here (Looks.of_peek (X.keeps F.keep) (meth2 _ _)) h
end
end
section
theorem in_list9 {P : Led} {v : Value} {ds : List Dat} (h : DatIn P v (.list ds)) : ∃ l vs n, v = .ref l ∧ (l, W.listOf vs.toArray n) ∈ P ∧ DatAll P vs ds := by
  cases h with
  | list hm r => exact ⟨_, _, _, rfl, hm, r⟩
theorem in_tup9 {P : Led} {v : Value} {ds : List Dat} (h : DatIn P v (.tuple ds)) : ∃ l vs n, v = .ref l ∧ (l, ({ cls := .type "tuple", data := .seq (List.toArray vs) n } : Obj)) ∈ P ∧ DatAll P vs ds := by
  cases h with
  | tuple hm r => exact ⟨_, _, _, rfl, hm, r⟩
theorem all_cons9 {P : Led} {vs : List Value} {d : Dat} {ds : List Dat} (h : DatAll P vs (d :: ds)) : ∃ v ws, vs = v :: ws ∧ DatIn P v d ∧ DatAll P ws ds := by
  cases h with
  | cons a r => exact ⟨_, _, rfl, a, r⟩
theorem in_bool9 {P : Led} {v : Value} {b : Bool} (h : DatIn P v (.bool b)) : v = .bool b := by cases h; rfl
theorem in_int9 {P : Led} {v : Value} {b : Int} (h : DatIn P v (.int b)) : ∃ t, v = .int b t := by cases h; exact ⟨_, rfl⟩
theorem in_str9 {P : Led} {v : Value} {b : Str} (h : DatIn P v (.str b)) : ∃ t, v = .str b t := by cases h; exact ⟨_, rfl⟩
theorem all_nil9 {P : Led} {vs : List Value} (h : DatAll P vs []) : vs = [] := by cases h; rfl
theorem in_two9 {P : Led} {v : Value} {a b : Dat} (h : DatIn P v (.tuple [a, b])) : ∃ l x y n, v = .ref l ∧ (l, ({ cls := .type "tuple", data := .seq #[x, y] n } : Obj)) ∈ P ∧ DatIn P x a ∧ DatIn P y b := by
  obtain ⟨l, vs, n, e, hm, r⟩ := in_tup9 h
  obtain ⟨x, ws, rfl, h1, r⟩ := all_cons9 r
  obtain ⟨y, ws, rfl, h2, r⟩ := all_cons9 r
  obtain rfl := all_nil9 r
  exact ⟨l, x, y, n, e, hm, h1, h2⟩
theorem in_three9 {P : Led} {v : Value} {a b c : Dat} (h : DatIn P v (.tuple [a, b, c])) : ∃ l x y z n, v = .ref l ∧ (l, ({ cls := .type "tuple", data := .seq #[x, y, z] n } : Obj)) ∈ P ∧ DatIn P x a ∧ DatIn P y b ∧ DatIn P z c := by
  obtain ⟨l, vs, n, e, hm, r⟩ := in_tup9 h
  obtain ⟨x, ws, rfl, h1, r⟩ := all_cons9 r
  obtain ⟨y, ws, rfl, h2, r⟩ := all_cons9 r
  obtain ⟨z, ws, rfl, h3, r⟩ := all_cons9 r
  obtain rfl := all_nil9 r
  exact ⟨l, x, y, z, n, e, hm, h1, h2, h3⟩
/-- a premise that no search takes -/
structure Hid (p : Prop) : Prop where
  out : p
/-- what a contract is asked for -/
structure Cx where
  p : Program
  loose : List Str
  mean : ExcName → Option Value
  mg : Str → Option Value
  mb : Str → Option Value
  dp : Nat
  un : Nat
  gd : Option (List Code)
  cn : Str
  cs : Scope
  a : Addr
  ccd : Value
  cl : List (Str × Addr)
  outer : List Env
  A₀ : Around
  base : Heap
  h₀ : Heap
  L : Addr
  m : Str → Option Value
  s : Shared
  Q : Value → Shared → Prop
  E : Value → Shared → Prop
theorem neWorld : Nonempty World := ⟨⟨fun _ _ => 0, { strHash := fun _ => 0, shareClass := fun _ => 0, mergeTok := id, idOf := fun _ => 0, idOfShared := fun _ _ => 0, followText := fun _ => false, idOfImm := fun _ => 0 }⟩⟩
theorem neCx : Nonempty Cx := ⟨⟨default, [], fun _ => none, fun _ => none, fun _ => none, 0, 0, none, Str.empty, ⟨.module, [], false, false, []⟩, 0, .none, [], [], {}, default, default, 0, fun _ => none, {}, fun _ _ => True, fun _ _ => True⟩⟩
/-- an X of which P is false, if there is one -/
noncomputable def worst {X : Type} (h : Nonempty X) (P : X → Prop) : X := @Classical.epsilon X h fun x => ¬ P x
theorem of_worst {X : Type} {h : Nonempty X} {P : X → Prop} (k : P (worst h P)) (x : X) : P x :=
  Classical.byContradiction fun n => @Classical.epsilon_spec X (fun x => ¬ P x) ⟨x, n⟩ k
noncomputable def CtrAt (w : World) (f : Addr) (pos : List Value) (kw : List (Str × Value)) (d u : Nat) (cells : Led) (Post : Led → Value → Prop) (c : Cx) : Prop :=
  Below c.A₀ c.base c.outer c.h₀ → Fr c.h₀ c.L c.s.heap c.m → (K w.params).In c.h₀ → News c.h₀ c.L c.s.heap cells → Top c.p c.loose c.mean c.mg c.mb c.h₀ → c.cs.kind = .function → c.dp + d < recursionLimit → c.un + u < cLine → Back c.h₀ c.L c.m c.s cells Post c.Q →
    wpAny (model prog w) (ktrTop c.dp c.un c.gd c.cn c.cs c.L c.a c.ccd c.cl c.outer) (call (.ref f) pos kw) c.Q c.E c.s
theorem ctr_of {w : World} {f : Addr} {pos : List Value} {kw : List (Str × Value)} {d u : Nat} {cells : Led} {Post : Led → Value → Prop} (h : ∀ c : Cx, CtrAt w f pos kw d u cells Post c) : Ctr w f pos kw d u cells Post :=
  fun p loose mean mg mb dp un gd cn cs a ccd cl outer A₀ base h₀ L m s Q E => h ⟨p, loose, mean, mg, mb, dp, un, gd, cn, cs, a, ccd, cl, outer, A₀, base, h₀, L, m, s, Q, E⟩
noncomputable def CtrLAt (w : World) (f : Addr) (pos : List Value) (kw : List (Str × Value)) (d u : Nat) (led : Led) (Post : Led → Value → Prop) (c : Cx) : Prop :=
  Below c.A₀ c.base c.outer c.h₀ → Fr c.h₀ c.L c.s.heap c.m → (K w.params).In c.h₀ → News c.h₀ c.L c.s.heap led → Top c.p c.loose c.mean c.mg c.mb c.h₀ → c.cs.kind = .function → c.dp + d < recursionLimit → c.un + u < cLine → BackL c.h₀ c.L c.m c.s Post c.Q →
    wpAny (model prog w) (ktrTop c.dp c.un c.gd c.cn c.cs c.L c.a c.ccd c.cl c.outer) (call (.ref f) pos kw) c.Q c.E c.s
theorem ctrL_of {w : World} {f : Addr} {pos : List Value} {kw : List (Str × Value)} {d u : Nat} {led : Led} {Post : Led → Value → Prop} (h : ∀ c : Cx, CtrLAt w f pos kw d u led Post c) : CtrL w f pos kw d u led Post :=
  fun p loose mean mg mb dp un gd cn cs a ccd cl outer A₀ base h₀ L m s Q E => h ⟨p, loose, mean, mg, mb, dp, un, gd, cn, cs, a, ccd, cl, outer, A₀, base, h₀, L, m, s, Q, E⟩
noncomputable def CtrTo (w : World) (f9 : Addr) (pos9 : List Value) (kw9 : List (Str × Value)) (d u : Nat) (cells : Led) (Post : Led → Value → Prop) (c : Cx) (G : Prop) : Prop :=
  Below c.A₀ c.base c.outer c.h₀ → Fr c.h₀ c.L c.s.heap c.m → (K w.params).In c.h₀ → News c.h₀ c.L c.s.heap cells → Top c.p c.loose c.mean c.mg c.mb c.h₀ → c.cs.kind = .function → c.dp + d < recursionLimit → c.un + u < cLine → Back c.h₀ c.L c.m c.s cells Post c.Q → G
noncomputable def CtrLTo (w : World) (f9 : Addr) (pos9 : List Value) (kw9 : List (Str × Value)) (d u : Nat) (cells : Led) (Post : Led → Value → Prop) (c : Cx) (G : Prop) : Prop :=
  Below c.A₀ c.base c.outer c.h₀ → Fr c.h₀ c.L c.s.heap c.m → (K w.params).In c.h₀ → News c.h₀ c.L c.s.heap cells → Top c.p c.loose c.mean c.mg c.mb c.h₀ → c.cs.kind = .function → c.dp + d < recursionLimit → c.un + u < cLine → BackL c.h₀ c.L c.m c.s Post c.Q → G
end
theorem sweepP2a {M : Model} {A : Around} {env : Env} {Q : Flow → Shared → Prop} {E : Value → Shared → Prop} {s : Shared} (h : wpAny M A (execs [] env) Q E s) : wpAny M A (execs [] env) Q E s := by w_top off; first | (walk1; fail "swept") | exact h
section
local macro_rules | `(tactic| omega) => `(tactic| k_extra "mom0")
section
local macro_rules | `(tactic| walk_at "LeaveK") => `(tactic| k_extra "mv1")
section
local macro_rules | `(tactic| walk_at "call builtin:re.Pattern.search") => `(tactic| k_extra "mv2")
section
local macro_rules | `(tactic| walk_at "getMethod ref") => `(tactic| k_extra "mv3")
theorem sweepP2 {M : Model} {A : Around} {env : Env} {Q : Flow → Shared → Prop} {E : Value → Shared → Prop} {s : Shared} (h : wpAny M A (execs [] env) Q E s) : wpAny M A (execs [] env) Q E s := by w_top off; first | (walk1; fail "swept") | exact h
section
noncomputable def Same (u : Value) (_ : Led) (v : Value) : Prop := v = u
namespace E_convN_spec
noncomputable def epsP (q : (World × Value × Str × Tok) × Cx) : Prop := (fun (w : World) (self : Value) (x : Str) (t : Tok) (cx9 : Cx) => ∀ (hx : Plain x) (h : x.length ≤ 1000000), CtrAt w 83 [self, .str x t] [(Str.ofString "name", .bool true)] 1 16 [] (Same (.str x t))  cx9) q.1.1 q.1.2.1 q.1.2.2.1 q.1.2.2.2 q.2
theorem epsN : Nonempty ((World × Value × Str × Tok) × Cx) := ⟨((Classical.choice neWorld, default, default, default), Classical.choice neCx)⟩
@[irreducible] noncomputable def epsC : (World × Value × Str × Tok) × Cx := worst epsN epsP
@[irreducible] noncomputable def w : World := epsC.1.1
@[irreducible] noncomputable def self : Value := epsC.1.2.1
@[irreducible] noncomputable def x : Str := epsC.1.2.2.1
@[irreducible] noncomputable def t : Tok := epsC.1.2.2.2
noncomputable def ent : (TT9 : Heap → Addr → Heap → Prop) ×' (∀ (hx : Plain x) (h : x.length ≤ 1000000), Hid (∀ x0 x1 x2, TT9 x0 x1 x2) → CtrAt w 83 [self, .str x t] [(Str.ofString "name", .bool true)] 1 16 [] (Same (.str x t))  epsC.2) :=
  ⟨_, fun hx h H => by
    intro cxB cxF cxX cxN cxT cxk cxd cxu cxr
    ((refine wpAny_call ?_; k_dflt (refine' code_defG ?z1k1 ?z1k2 ?z1k3 ?z1k4 ?z1k5 ?z1kA ?z1kF ?z1kK ?z1k6 ?z1k7 ?z1k8 ?z1k9 ?z1kB ?_ ?z1c2 ?z1c3 ?z1c4 ?z1c5; (case z1kA => exact rfl); (case z1kF => exact rfl); (case z1kK => assumption); (case z1k1 => k_asm); (case z1k2 => k_asm); (case z1k3 => k_asm); (case z1k4 => k_asm); (case z1k5 => k_asm); (case z1k6 => k_is); (case z1k7 => k_is); (case z1k8 => ktr_room); (case z1k9 => first | exact BindsTo.of_eq rfl | exact binds_K (by k_in) rfl (by k_is) rfl rfl rfl | fail "mine enter: no rule for these arguments"); (case z1c5 => decide); (case z1kB => exact locs rfl); (case z1c2 => exact rfl); (case z1c3 => exact rfl); (case z1c4 => exact rfl); k_whole)))
    exact H.out⟩
theorem entN : Nonempty (Heap × Addr × Heap) := ⟨(default, 0, default)⟩
noncomputable def entP (q : Heap × Addr × Heap) : Prop := ent.1 q.1 q.2.1 q.2.2
@[irreducible] noncomputable def entC : Heap × Addr × Heap := worst entN entP
@[irreducible] noncomputable def gE : Heap := entC.1
@[irreducible] noncomputable def LE : Addr := entC.2.1
@[irreducible] noncomputable def hE : Heap := entC.2.2
theorem walk (hx : Plain x) (h : x.length ≤ 1000000) : CtrTo w 83 [self, .str x t] [(Str.ofString "name", .bool true)] 1 16 [] (Same (.str x t))  epsC.2 (ent.1 gE LE hE) := by
  (intro cxB cxF cxX cxN cxT cxk cxd cxu cxr); walk_at "mine pure1"
  k_steps
  exact rfl
theorem walk2 (hx : Plain x) (h : x.length ≤ 1000000) : CtrTo w 83 [self, .str x t] [(Str.ofString "name", .bool true)] 1 16 [] (Same (.str x t))  epsC.2 (entP entC) := by with_unfolding_all exact walk hx h
theorem fin : epsP epsC := by
  with_unfolding_all exact fun hx h cxB cxF cxX cxN cxT cxk cxd cxu cxr => ent.2 hx h ⟨fun x0 x1 x2 => of_worst (P := entP) (h := entN) (by with_unfolding_all exact walk2 hx h cxB cxF cxX cxN cxT cxk cxd cxu cxr) (x0, x1, x2)⟩ cxB cxF cxX cxN cxT cxk cxd cxu cxr
end E_convN_spec
theorem convN_spec (w : World) (self : Value) (x : Str) (t : Tok) (hx : Plain x) (h : x.length ≤ 1000000) : Ctr w 83 [self, .str x t] [(Str.ofString "name", .bool true)] 1 16 [] (Same (.str x t)) := ctr_of fun c9 => of_worst (P := E_convN_spec.epsP) (h := E_convN_spec.epsN) (by with_unfolding_all exact E_convN_spec.fin) ((w, self, x, t), c9) hx h
namespace E_convV_spec
noncomputable def epsP (q : (World × Value × Str × Tok) × Cx) : Prop := (fun (w : World) (self : Value) (x : Str) (t : Tok) (cx9 : Cx) => ∀ (hx : Plain x) (h : x.length ≤ 1000000), CtrAt w 83 [self, .str x t] [(Str.ofString "name", .bool false)] 1 16 [] (Same (.str x t))  cx9) q.1.1 q.1.2.1 q.1.2.2.1 q.1.2.2.2 q.2
theorem epsN : Nonempty ((World × Value × Str × Tok) × Cx) := ⟨((Classical.choice neWorld, default, default, default), Classical.choice neCx)⟩
@[irreducible] noncomputable def epsC : (World × Value × Str × Tok) × Cx := worst epsN epsP
@[irreducible] noncomputable def w : World := epsC.1.1
@[irreducible] noncomputable def self : Value := epsC.1.2.1
@[irreducible] noncomputable def x : Str := epsC.1.2.2.1
@[irreducible] noncomputable def t : Tok := epsC.1.2.2.2
noncomputable def ent : (TT9 : Heap → Addr → Heap → Prop) ×' (∀ (hx : Plain x) (h : x.length ≤ 1000000), Hid (∀ x0 x1 x2, TT9 x0 x1 x2) → CtrAt w 83 [self, .str x t] [(Str.ofString "name", .bool false)] 1 16 [] (Same (.str x t))  epsC.2) :=
  ⟨_, fun hx h H => by
    intro cxB cxF cxX cxN cxT cxk cxd cxu cxr
    ((refine wpAny_call ?_; k_dflt (refine' code_defG ?z2k1 ?z2k2 ?z2k3 ?z2k4 ?z2k5 ?z2kA ?z2kF ?z2kK ?z2k6 ?z2k7 ?z2k8 ?z2k9 ?z2kB ?_ ?z2c2 ?z2c3 ?z2c4 ?z2c5; (case z2kA => exact rfl); (case z2kF => exact rfl); (case z2kK => assumption); (case z2k1 => k_asm); (case z2k2 => k_asm); (case z2k3 => k_asm); (case z2k4 => k_asm); (case z2k5 => k_asm); (case z2k6 => k_is); (case z2k7 => k_is); (case z2k8 => ktr_room); (case z2k9 => first | exact BindsTo.of_eq rfl | exact binds_K (by k_in) rfl (by k_is) rfl rfl rfl | fail "mine enter: no rule for these arguments"); (case z2c5 => decide); (case z2kB => exact locs rfl); (case z2c2 => exact rfl); (case z2c3 => exact rfl); (case z2c4 => exact rfl); k_whole)))
    exact H.out⟩
theorem entN : Nonempty (Heap × Addr × Heap) := ⟨(default, 0, default)⟩
noncomputable def entP (q : Heap × Addr × Heap) : Prop := ent.1 q.1 q.2.1 q.2.2
@[irreducible] noncomputable def entC : Heap × Addr × Heap := worst entN entP
@[irreducible] noncomputable def gE : Heap := entC.1
@[irreducible] noncomputable def LE : Addr := entC.2.1
@[irreducible] noncomputable def hE : Heap := entC.2.2
theorem walk (hx : Plain x) (h : x.length ≤ 1000000) : CtrTo w 83 [self, .str x t] [(Str.ofString "name", .bool false)] 1 16 [] (Same (.str x t))  epsC.2 (ent.1 gE LE hE) := by
  (intro cxB cxF cxX cxN cxT cxk cxd cxu cxr); walk_at "mine pure1"
  k_steps
  exact rfl
theorem walk2 (hx : Plain x) (h : x.length ≤ 1000000) : CtrTo w 83 [self, .str x t] [(Str.ofString "name", .bool false)] 1 16 [] (Same (.str x t))  epsC.2 (entP entC) := by with_unfolding_all exact walk hx h
theorem fin : epsP epsC := by
  with_unfolding_all exact fun hx h cxB cxF cxX cxN cxT cxk cxd cxu cxr => ent.2 hx h ⟨fun x0 x1 x2 => of_worst (P := entP) (h := entN) (by with_unfolding_all exact walk2 hx h cxB cxF cxX cxN cxT cxk cxd cxu cxr) (x0, x1, x2)⟩ cxB cxF cxX cxN cxT cxk cxd cxu cxr
end E_convV_spec
theorem convV_spec (w : World) (self : Value) (x : Str) (t : Tok) (hx : Plain x) (h : x.length ≤ 1000000) : Ctr w 83 [self, .str x t] [(Str.ofString "name", .bool false)] 1 16 [] (Same (.str x t)) := ctr_of fun c9 => of_worst (P := E_convV_spec.epsP) (h := E_convV_spec.epsN) (by with_unfolding_all exact E_convV_spec.fin) ((w, self, x, t), c9) hx h
end
end
end
theorem sweepP3a {M : Model} {A : Around} {env : Env} {Q : Flow → Shared → Prop} {E : Value → Shared → Prop} {s : Shared} (h : wpAny M A (execs [] env) Q E s) : wpAny M A (execs [] env) Q E s := by w_top off; first | (walk1; fail "swept") | exact h
section
local macro_rules | `(tactic| walk_at "execs cons") => `(tactic| k_extra "mv4")
section
local macro_rules | `(tactic| walk_at "execs nil") => `(tactic| k_extra "mv4")
section
local macro_rules | `(tactic| walk_at "call builtin:str.replace") => `(tactic| (k_dflt (refine replace_no (by assumption) ?_); (try dsimp only)))
theorem sweepP3 {M : Model} {A : Around} {env : Env} {Q : Flow → Shared → Prop} {E : Value → Shared → Prop} {s : Shared} (h : wpAny M A (execs [] env) Q E s) : wpAny M A (execs [] env) Q E s := by w_top off; first | (walk1; fail "swept") | exact h
section
noncomputable def fmtStr (x y : Str) : Str := Str.empty ++ x ++ Str.ofString "=\"" ++ y ++ Str.ofString "\""
theorem fmt_len (x y : Str) : (fmtStr x y).length = x.length + y.length + 3 := by
  simp only [fmtStr, Str.length_append]
  have e1 : Str.empty.length = 0 := rfl
  have e2 : (Str.ofString "=\"").length = 2 := by decide +kernel
  have e3 : (Str.ofString "\"").length = 1 := by decide +kernel
  omega
theorem fmt_spec (w : World) (x y : Str) (t u : Tok) (hx : x.length ≤ 1000) (hy : y.length ≤ 1000) (hy0 : 0 < y.length) (h1 : Builtin.Str.occurrences y (Str.ofString "\\") 0 y.length (y.length + 1) = []) (h2 : Builtin.Str.occurrences y (Str.ofString "\"") 0 y.length (y.length + 1) = []) : Ctr w 61 [.str x t, .str y u] [] 1 16 [] (IsStr (fmtStr x y)) := by
  (intro _ _ _ _ _ _ _ _ _ _ _ _ _ _ _ _ _ _ _ _ _ _ _ _ _ _ _ _ _ _ _; ((refine wpAny_call ?_; k_dflt (refine' code_defG ?z3k1 ?z3k2 ?z3k3 ?z3k4 ?z3k5 ?z3kA ?z3kF ?z3kK ?z3k6 ?z3k7 ?z3k8 ?z3k9 ?z3kB ?_ ?z3c2 ?z3c3 ?z3c4 ?z3c5; (case z3kA => exact rfl); (case z3kF => exact rfl); (case z3kK => assumption); (case z3k1 => k_asm); (case z3k2 => k_asm); (case z3k3 => k_asm); (case z3k4 => k_asm); (case z3k5 => k_asm); (case z3k6 => k_is); (case z3k7 => k_is); (case z3k8 => ktr_room); (case z3k9 => first | exact BindsTo.of_eq rfl | exact binds_K (by k_in) rfl (by k_is) rfl rfl rfl | fail "mine enter: no rule for these arguments"); (case z3c5 => decide); (case z3kB => exact locs rfl); (case z3c2 => exact rfl); (case z3c3 => exact rfl); (case z3c4 => exact rfl); k_whole))); intro _ _ _; walk_at "mine pure1")
  k_steps
  exact IsStr.mk rfl
end
theorem sweepP4a {M : Model} {A : Around} {env : Env} {Q : Flow → Shared → Prop} {E : Value → Shared → Prop} {s : Shared} (h : wpAny M A (execs [] env) Q E s) : wpAny M A (execs [] env) Q E s := by w_top off; first | (walk1; fail "swept") | exact h
section
local macro_rules | `(tactic| k_all) => `(tactic| k_extra "mk0")
theorem sweepP4 {M : Model} {A : Around} {env : Env} {Q : Flow → Shared → Prop} {E : Value → Shared → Prop} {s : Shared} (h : wpAny M A (execs [] env) Q E s) : wpAny M A (execs [] env) Q E s := by w_top off; first | (walk1; fail "swept") | exact h
section
noncomputable abbrev hDict (w : World) (t : Tok) (l : Addr) : Obj := dictOf [⟨PyData.keyHash w.params (Str.ofString "_headers"), .str (Str.ofString "_headers") t, .ref l⟩] 1
section
variable {w : World} {p : Program} {loose : List Str} {mean : ExcName → Option Value} {mg mb : Str → Option Value} {dp un : Nat} {gd : Option (List Code)} {cn : Str} {cs : Scope} {a : Addr} {ccd : Value} {cl : List (Str × Addr)} {outer : List Env}
  {A₀ : Around} {base h₀ : Heap} {L : Addr} {m : Str → Option Value} {s : Shared} {Q E : Value → Shared → Prop} {all : Led}
theorem new_headers (B : Below A₀ base outer h₀) (F : Fr h₀ L s.heap m) (X : (K w.params).In h₀) (N : News h₀ L s.heap all) (T : Top p loose mean mg mb h₀) (hk : cs.kind = .function) (hd : dp + 5 < recursionLimit) (hu : un + 60 < cLine)
    (h : ∀ x dx l t h' tk, Fr h₀ L h' m → News h₀ L h' ((l, listOf #[] 0) :: (x, instObj 182 dx) :: (dx, hDict w t l) :: all) → (∀ p ∈ all, p.1 < dx) → @LT.lt Nat _ dx x → @LT.lt Nat _ x l → Q (.ref x) { s with heap := h', toks := tk }) :
    wpAny (model prog w) (ktrTop dp un gd cn cs L a ccd cl outer) (call (.ref 182) [] []) Q E s := by
  k_dflt (refine' call_cls ?c1 ?c2 ?c3 ?c4 ?c5 ?c6 ?_; (case c1 => k_asm); (case c2 => k_asm); (case c3 => k_asm); (case c4 => k_is); (case c5 => k_is); (case c6 => k_is))
  intro x dx h' F' N' l1 l2
  have l3 := ltN l2
  have hn1 : ∀ p ∈ all, p.1 ≠ dx := fun p hp => Nat.ne_of_lt (l1 p hp)
  have hn2 : ∀ p ∈ all, p.1 ≠ x := fun p hp => Nat.ne_of_lt (Nat.lt_trans (l1 p hp) l2)
  ((k_dflt (refine' code_defG ?z4k1 ?z4k2 ?z4k3 ?z4k4 ?z4k5 ?z4kA ?z4kF ?z4kK ?z4k6 ?z4k7 ?z4k8 ?z4k9 ?z4kB ?_ ?z4c2 ?z4c3 ?z4c4 ?z4c5; (case z4kA => exact rfl); (case z4kF => exact rfl); (case z4kK => assumption); (case z4k1 => k_asm); (case z4k2 => k_asm); (case z4k3 => k_asm); (case z4k4 => k_asm); (case z4k5 => k_asm); (case z4k6 => k_is); (case z4k7 => k_is); (case z4k8 => ktr_room); (case z4k9 => first | exact BindsTo.of_eq rfl | exact binds_K (by k_in) rfl (by k_is) rfl rfl rfl | fail "mine enter: no rule for these arguments"); (case z4c5 => decide); (case z4kB => exact locs rfl); (case z4c2 => exact rfl); (case z4c3 => exact rfl); (case z4c4 => exact rfl); k_whole); intro _ _ _; walk_at "mine pure1"))
  k_steps
  refine For_turns (by assumption) ?_
  k_steps
  refine iter_listTurns (by exact rfl) (by assumption) (by assumption) (by k_mem) rfl rfl (fun I hI => ?_)
  refine ItemsRest.zero ?_
  intro h9 tk9 F9 N9
  k_steps
  exact h x dx _ _ h9 tk9 (by assumption) (by assumption) l1 l3 (by omega)
end
end
section
section
variable {w : World} {A A₀ : Around} {s : Shared} {Kf : Frag} {L : Addr} {h₀ base : Heap} {m mg mb : Str → Option Value} {news : Led} {p : Program} {loose : List Str} {mean : ExcName → Option Value}
/-- a def with captured names is entered; what lies off the ledger lies in its ground -/
theorem code_cells {env : Env} {outer : List Env} {R : Result → Shared → Prop} {name qual : Str} {params : Arguments} {body : List Stmt} {scope : Scope} {dV kV doc pm cdv ct oc : Value} {an od : Option Addr} {osl : Array (Option Value)} {f : Addr} {args : Args} {binds : List (Str × Value)}
    (B : Below A₀ base outer h₀) (F : Fr h₀ L s.heap m) (X₀ : Kf.In h₀) (N : News h₀ L s.heap news) (T : Top p loose mean mg mb h₀) (hA : A.frames = some (env :: outer)) (hf : env.frame = some L) (hke : env.scope.kind = .function)
    (ho : Kf.lookup f = some ⟨oc, od, .func (fnOf name qual params body scope dV kV doc pm an cdv ct), osl⟩) (hcd : codeIn Kf cdv qual = true) (hroom : A.depth < recursionLimit)
    (hbind : BindsTo s (fnOf name qual params body scope dV kV doc pm an cdv ct) args binds) (hkind : (binds.all fun y => scope.names.lookup y.1 == some .local || scope.names.lookup y.1 == some .cell) = true)
    (hnd : ((cellsFrom 0 scope.names []).map (·.1)).Nodup)
    (h : ∀ g L' h₁ tk cells, Fr h₀ L g m → Fr g L' h₁ (bindL (envOfC qual scope L' f cdv).kindOf binds fun _ => none) → News g L' h₁ (cells ++ news) →
      CellsAre (bindC (envOfC qual scope L' f cdv).kindOf binds fun _ => none) (cellsFrom (L' + 1) scope.names []) cells → Below A base (env :: outer) g → Kf.In g → Top p loose mean mg mb g → (∀ p ∈ news, p.1 < L') → GSub s.heap g (news.map (·.1)) →
      wpAny (model prog w) (A.deeper (envOfC qual scope L' f cdv)) (execs body (envOfC qual scope L' f cdv))
        (fun fl s' => LeaveK h₀ L m g R (match fl with | .ret v => v | _ => .none) s')
        (fun e s' => wpAny (model prog w) (A.deeper (envOfC qual scope L' f cdv)) (leaving (envOfC qual scope L' f cdv) e) (fun _ s'' => R (.error e) s'') (fun e' s'' => R (.error e') s'') s')
        { s with heap := h₁, toks := tk })
    (hco : scope.isCoroutine = false) (hgen : scope.isGenerator = false) (hk : scope.kind = .function) : codeAny (model prog w) A (.call (.ref f) args) R s := by
  obtain ⟨FG, BG, st, lv⟩ := groundX (R := R) B F N hA hf hke
  refine codeAny_call_function (fd := fnOf name qual params body scope dV kV doc pm an cdv ct) (body := body) hroom ((X₀.keeps F.keep) _ _ ho) rfl hco hgen rfl (codeRec_of (X₀.keeps F.keep) hcd) (hbind _ _ _ _ ?_)
  refine wpAny_newFunctionEnv_cells hk (kindsX hkind _) fun env' he s' x => ?_
  subst he
  refine ⟨(T.nolimit.keeps F.keep).keeps x.toInCall.keep, codeAny_func ?_⟩
  obtain ⟨h₁, tk, rfl, _⟩ := x.done
  have hk₁ := x.toInCall.keep
  obtain ⟨cells, NC, Y⟩ := Cl.news (h₀ := s.heap) (Nat.le_refl _) fun n c hm => ⟨x.cell n c (lookup_of_mem_nodup (cellsFrom_names scope.names 0 (s.heap.objs.size + 1) [] [] rfl ▸ hnd) hm), x.above n c hm⟩
  refine wpAny_mono (h _ s.heap.objs.size h₁ tk cells FG ⟨x.toInCall.ns, fun b o e => hk₁ b o (of_hideAll _ e), Nat.le_of_eq (hideAll_size _ _)⟩ (fun p hp => ?_) Y BG (X₀.keeps st) (T.keeps st) (fun p hp => Heap.lt_size (N p hp).1) (fun b o e n => hideAll_get _ e n)) (fun fl s' hl => lv _ _ hl) fun _ _ y => y
  rcases List.mem_append.mp hp with hp | hp
  · refine ⟨(NC p hp).1, (NC p hp).2.1, ?_⟩
    cases q : (hideAll s.heap (news.map (·.1))).get? p.1 with
    | none => rfl
    | some o => have := of_hideAll _ q; rw [(NC p hp).2.2] at this; cases this
  · exact ⟨hk₁ _ _ (N p hp).1, Nat.ne_of_lt (Heap.lt_size (N p hp).1), hideAll_none _ (List.mem_map_of_mem hp)⟩
end
end
section
open PyProof.Rows.LCg PyProof.Rows.LCt
section
variable {prog : Program} {w : World} {A : Around} {s : Shared} {h₀ : Heap} {L : Addr} {m : Str → Option Value} {env : Env} {ct elt : Expr} {x : Str} {scope : Scope} {cl : List (Str × Addr)} {S : Led → Prop} {P : Nat → Value → Prop} {Fin : List Value → Led → Prop}
theorem compEnd_mono {s₁ : Shared} {I C D : Addr} {oI oC oD : Obj} {r r' : Value → Led → Prop} {y : Value} {s₂ : Shared} (h : CompEnd h₀ L m s₁ I oI C oC D oD S r y s₂) (k : ∀ y n, r y n → r' y n) : CompEnd h₀ L m s₁ I oI C oC D oD S r' y s₂ := by
  obtain ⟨h', tk, n', a, b, c, d, e, f⟩ := h
  exact ⟨h', tk, n', a, b, c, d, e, k _ _ f⟩
/-- a comprehension with a test, by what holds of what is kept so far -/
theorem rest_test {n : Nat} (J : Nat → List Value → Led → Prop)
    (step : ∀ i ys news, i < n → J i ys news → ∀ v I oI C oC D m₂ h tk (E' : Value → Shared → Prop), P i v → NsObj oC m₂ → m₂ x = some v → Fr h₀ L h m → News h₀ L h ((I, oI) :: (C, oC) :: (D, lst ys) :: news) → Off3 I C D news → ((@Ne Nat I C) ∧ (@Ne Nat I D) ∧ (@Ne Nat C D)) →
      wpAny (model prog w) A (isTrue ct (compEnvC scope cl C env) (eval ct (compEnvC scope cl C env))) (fun ok s' => if ok = true then
        wpAny (model prog w) A (eval elt (compEnvC scope cl C env)) (CompEnd h₀ L m { s with heap := h, toks := tk } I oI C oC D (lst ys) S (fun y news' => J (i + 1) (ys ++ [y]) news')) E' s'
        else CompEnd h₀ L m { s with heap := h, toks := tk } I oI C oC D (lst ys) S (fun _ news' => J (i + 1) ys news') Value.none s') E' { s with heap := h, toks := tk })
    (fin : ∀ ys news, J n ys news → Fin ys news) : ∀ (k i : Nat) (ys : List Value) (news : Led), i + k = n → J i ys news → CompRestT prog w A h₀ L m env ct elt x scope cl s S P Fin k i ys news
  | 0, i, ys, news, e, j => CompRestT.zero (fin ys news ((show i = n from by omega) ▸ j))
  | k + 1, i, ys, news, e, j => CompRestT.succ fun v I oI C oC D m₂ h tk E' hP hC hx F N o1 o2 => by
    refine wpAny_mono (step i ys news (by omega) j v I oI C oC D m₂ h tk E' hP hC hx F N o1 o2) (fun ok s' hq => ?_) fun _ _ e => e
    cases ok with
    | true =>
      simp only [if_true] at hq ⊢
      exact wpAny_mono hq (fun y s'' hy => compEnd_mono hy fun y n hj => rest_test J step fin k (i + 1) _ _ (by omega) hj) fun _ _ e => e
    | false =>
      simp only [Bool.false_eq_true, if_false] at hq ⊢
      exact compEnd_mono hq fun _ n hj => rest_test J step fin k (i + 1) _ _ (by omega) hj
/-- one without a test -/
theorem rest_plain {n : Nat} (J : Nat → List Value → Led → Prop)
    (step : ∀ i ys news, i < n → J i ys news → ∀ v I oI C oC D m₂ h tk (E' : Value → Shared → Prop), P i v → NsObj oC m₂ → m₂ x = some v → Fr h₀ L h m → News h₀ L h ((I, oI) :: (C, oC) :: (D, lst ys) :: news) → Off3 I C D news → ((@Ne Nat I C) ∧ (@Ne Nat I D) ∧ (@Ne Nat C D)) →
      wpAny (model prog w) A (eval elt (compEnvC scope cl C env)) (CompEnd h₀ L m { s with heap := h, toks := tk } I oI C oC D (lst ys) S (fun y news' => J (i + 1) (ys ++ [y]) news')) E' { s with heap := h, toks := tk })
    (fin : ∀ ys news, J n ys news → Fin ys news) : ∀ (k i : Nat) (ys : List Value) (news : Led), i + k = n → J i ys news → CompRest prog w A h₀ L m env elt x scope cl s S P Fin k i ys news
  | 0, i, ys, news, e, j => CompRest.zero (fin ys news ((show i = n from by omega) ▸ j))
  | k + 1, i, ys, news, e, j => CompRest.succ fun v I oI C oC D m₂ h tk E' hP hC hx F N o1 o2 =>
    wpAny_mono (step i ys news (by omega) j v I oI C oC D m₂ h tk E' hP hC hx F N o1 o2) (fun y s'' hy => compEnd_mono hy fun y n hj => rest_plain J step fin k (i + 1) _ _ (by omega) hj) fun _ _ e => e
/-- the same, the ledger growing ahead of what stood -/
theorem grow_test {n : Nat} {news₀ : Led} (J : Nat → List Value → Led → Prop)
    (step : ∀ i ys add, i < n → J i ys add → ∀ v I oI C oC D m₂ h tk (E' : Value → Shared → Prop), P i v → NsObj oC m₂ → m₂ x = some v → Fr h₀ L h m → News h₀ L h ((I, oI) :: (C, oC) :: (D, lst ys) :: (add ++ news₀)) → Off3 I C D (add ++ news₀) → ((@Ne Nat I C) ∧ (@Ne Nat I D) ∧ (@Ne Nat C D)) →
      wpAny (model prog w) A (isTrue ct (compEnvC scope cl C env) (eval ct (compEnvC scope cl C env))) (fun ok s' => if ok = true then
        wpAny (model prog w) A (eval elt (compEnvC scope cl C env)) (CompEnd h₀ L m { s with heap := h, toks := tk } I oI C oC D (lst ys) S (fun y news' => ∃ add', news' = add' ++ news₀ ∧ J (i + 1) (ys ++ [y]) add')) E' s'
        else CompEnd h₀ L m { s with heap := h, toks := tk } I oI C oC D (lst ys) S (fun _ news' => ∃ add', news' = add' ++ news₀ ∧ J (i + 1) ys add') Value.none s') E' { s with heap := h, toks := tk })
    (fin : ∀ ys add, J n ys add → Fin ys (add ++ news₀)) (h0 : J 0 [] []) : CompRestT prog w A h₀ L m env ct elt x scope cl s S P Fin n 0 [] news₀ :=
  rest_test (fun i ys news => ∃ add, news = add ++ news₀ ∧ J i ys add) (fun i ys _ hi ⟨add, e, j⟩ => by subst e; exact step i ys add hi j) (fun ys _ ⟨add, e, j⟩ => by subst e; exact fin ys add j) n 0 [] news₀ (Nat.zero_add _) ⟨[], rfl, h0⟩
theorem grow_plain {n : Nat} {news₀ : Led} (J : Nat → List Value → Led → Prop)
    (step : ∀ i ys add, i < n → J i ys add → ∀ v I oI C oC D m₂ h tk (E' : Value → Shared → Prop), P i v → NsObj oC m₂ → m₂ x = some v → Fr h₀ L h m → News h₀ L h ((I, oI) :: (C, oC) :: (D, lst ys) :: (add ++ news₀)) → Off3 I C D (add ++ news₀) → ((@Ne Nat I C) ∧ (@Ne Nat I D) ∧ (@Ne Nat C D)) →
      wpAny (model prog w) A (eval elt (compEnvC scope cl C env)) (CompEnd h₀ L m { s with heap := h, toks := tk } I oI C oC D (lst ys) S (fun y news' => ∃ add', news' = add' ++ news₀ ∧ J (i + 1) (ys ++ [y]) add')) E' { s with heap := h, toks := tk })
    (fin : ∀ ys add, J n ys add → Fin ys (add ++ news₀)) (h0 : J 0 [] []) : CompRest prog w A h₀ L m env elt x scope cl s S P Fin n 0 [] news₀ :=
  rest_plain (fun i ys news => ∃ add, news = add ++ news₀ ∧ J i ys add) (fun i ys _ hi ⟨add, e, j⟩ => by subst e; exact step i ys add hi j) (fun ys _ ⟨add, e, j⟩ => by subst e; exact fin ys add j) n 0 [] news₀ (Nat.zero_add _) ⟨[], rfl, h0⟩
end
end
section
theorem allObj_mono : ∀ {ws : List (Addr × String)} {k k' : Led → Prop}, (∀ its, k its → k' its) → AllObj ws k → AllObj ws k'
  | [], _, _, h, x => h _ x
  | _ :: _, _, _, h, x => fun o c => allObj_mono (fun its q => h _ q) (x o c)
section
variable {prog : Program} {w : World} {A : Around} {E : Value → Shared → Prop} {s : Shared} {h₀ : Heap} {env : Env} {target : Expr} {body : List Stmt} {Q : Flow → Shared → Prop} {ws : List (Addr × String)} {keep : Led}
theorem unrPost_mono {L : Addr} {s₁ : Shared} {its : Led} {r r' : (Str → Option Value) → Led → Prop} (h : ∀ m n, r m n → r' m n) {f : Flow} {s₂ : Shared} (x : UnrPostW h₀ L s₁ its r Q f s₂) : UnrPostW h₀ L s₁ its r' Q f s₂ := by
  have go : UnrEndW h₀ L s₁ its r s₂ → UnrEndW h₀ L s₁ its r' s₂ := by
    rintro ⟨h', tk, m', n', a, b, c, d, e⟩
    exact ⟨h', tk, m', n', a, b, c, d, h _ _ e⟩
  cases f with
  | ret v => exact x
  | brk => exact x
  | next => exact go x
  | cont => exact go x
/-- a for-loop over items of any number, by what holds between the turns -/
theorem items_inv {xs : List Itm} (J : Nat → (Str → Option Value) → Led → Prop)
    (step : ∀ i a m news, xs[i]? = some a → J i m news → ∀ v h tk, a.Is v h → Fr h₀ env.locals h m → AllObj ws (fun its => News h₀ env.locals h (its ++ news) →
      wpAny (model prog w) A (assign target env v) (fun _ s₂ => wpAny (model prog w) A (execs body env) (UnrPostW h₀ env.locals { s with heap := h, toks := tk } its (fun m' n' => SubL keep n' ∧ J (i + 1) m' n') Q) E s₂) E { s with heap := h, toks := tk }))
    (done : ∀ m news h tk, J xs.length m news → Fr h₀ env.locals h m → News h₀ env.locals h news → Q .next { s with heap := h, toks := tk }) :
    ∀ (k i : Nat) (m : Str → Option Value) (news : Led), i + k = xs.length → J i m news → ItemsRest prog w A E h₀ env target body Q s ws keep (xs.drop i) m news
  | 0, i, m, news, e, j => by
    rw [List.drop_eq_nil_of_le (by omega)]
    exact ItemsRest.zero fun h tk F N => done m news h tk ((show i = xs.length from by omega) ▸ j) F N
  | k + 1, i, m, news, e, j => by
    have hi : i < xs.length := by omega
    rw [List.drop_eq_getElem_cons hi]
    intro v h tk hv F
    refine allObj_mono (fun its hq N => ?_) (step i xs[i] m news (List.getElem?_eq_getElem hi) j v h tk hv F)
    exact wpAny_mono (hq N) (fun _ s₂ h₂ => wpAny_mono h₂ (fun f s₃ h₃ => unrPost_mono (fun m' n' hj => ⟨hj.1, items_inv J step done k (i + 1) m' n' (by omega) hj.2⟩) h₃) fun _ _ e => e) fun _ _ e => e
theorem items_from0 {xs : List Itm} (J : Nat → (Str → Option Value) → Led → Prop) {m : Str → Option Value} {news : Led}
    (step : ∀ i a m news, xs[i]? = some a → J i m news → ∀ v h tk, a.Is v h → Fr h₀ env.locals h m → AllObj ws (fun its => News h₀ env.locals h (its ++ news) →
      wpAny (model prog w) A (assign target env v) (fun _ s₂ => wpAny (model prog w) A (execs body env) (UnrPostW h₀ env.locals { s with heap := h, toks := tk } its (fun m' n' => SubL keep n' ∧ J (i + 1) m' n') Q) E s₂) E { s with heap := h, toks := tk }))
    (done : ∀ m news h tk, J xs.length m news → Fr h₀ env.locals h m → News h₀ env.locals h news → Q .next { s with heap := h, toks := tk })
    (h0 : J 0 m news) : ItemsRest prog w A E h₀ env target body Q s ws keep xs m news := by
  have h := items_inv (keep := keep) (ws := ws) (target := target) (body := body) J step done xs.length 0 m news (Nat.zero_add _) h0
  rwa [List.drop_zero] at h
/-- the same, the frame's map told by the names that the loop stores, the ledger growing ahead of what stood -/
theorem items_st {xs : List Itm} (st : List Str) (J : Nat → (Str → Option Value) → Led → Prop) {m₀ : Str → Option Value} {news₀ : Led}
    (step : ∀ i a u add, xs[i]? = some a → J i u add → ∀ v h tk, a.Is v h → Fr h₀ env.locals h (fun y => if st.contains y = true then u y else m₀ y) → AllObj ws (fun its => News h₀ env.locals h (its ++ (add ++ news₀)) →
      wpAny (model prog w) A (assign target env v) (fun _ s₂ => wpAny (model prog w) A (execs body env) (UnrPostW h₀ env.locals { s with heap := h, toks := tk } its
        (fun m' n' => SubL keep n' ∧ ∃ add', (∀ y, st.contains y = false → m' y = m₀ y) ∧ n' = add' ++ news₀ ∧ J (i + 1) m' add') Q) E s₂) E { s with heap := h, toks := tk }))
    (done : ∀ u add h tk, J xs.length u add → Fr h₀ env.locals h (fun y => if st.contains y = true then u y else m₀ y) → News h₀ env.locals h (add ++ news₀) → Q .next { s with heap := h, toks := tk })
    (h0 : J 0 m₀ []) : ItemsRest prog w A E h₀ env target body Q s ws keep xs m₀ news₀ := by
  have form : ∀ m' : Str → Option Value, (∀ y, st.contains y = false → m' y = m₀ y) → m' = fun y => if st.contains y = true then m' y else m₀ y := fun m' hm => by
    funext y
    by_cases hy : st.contains y = true
    · rw [if_pos hy]
    · rw [if_neg hy]; exact hm y (by simpa using hy)
  refine items_from0 (fun i m news => ∃ add, (∀ y, st.contains y = false → m y = m₀ y) ∧ news = add ++ news₀ ∧ J i m add) ?_ ?_ ⟨[], fun _ _ => rfl, rfl, h0⟩
  · rintro i a m news ha ⟨add, hm, rfl, j⟩ v h tk hv F
    have e := form m hm
    rw [e] at F
    exact step i a m add ha j v h tk hv F
  · rintro m news h tk ⟨add, hm, rfl, j⟩ F N
    have e := form m hm
    rw [e] at F
    exact done m add h tk j F N
theorem off_st {st : List Str} {y x : Str} (hy : st.contains y = false) (hx : st.contains x = true) : ¬ y = x := fun e => by rw [e, hx] at hy; cases hy
theorem off_in {st : List Str} {y : Str} (hy : st.contains y = false) : ¬ st.contains y = true := by rw [hy]; exact Bool.false_ne_true
end
end
section
open PyProof.Rows.LCg PyProof.Rows.LCt
section
variable {prog : Program} {w : World} {A : Around} {E : Value → Shared → Prop} {s : Shared} {h₀ h : Heap} {L D : Addr} {m : Str → Option Value} {news news' : Led}
end
namespace E_setItem_all
noncomputable def epsP (q : Program × World × (Value → Shared → Prop) × Shared × Addr × Addr × Addr × (Array Value) × (Array Value) × Nat × Nat × Obj) : Prop := (fun (prog : Program) (w : World) (E : Value → Shared → Prop) (s : Shared) (D : Addr) (l : Addr) (sl : Addr) (xs : Array Value) (ys : Array Value) (n : Nat) (k : Nat) (oD : Obj) => ∀ (A : Around) (Q : Unit → Shared → Prop) (ho : s.heap.get? l = some (W.listOf xs n)) (hD : s.heap.get? D = some oD) (cD : oD.cls = .type "list") (dD : oD.data = .seq ys k) (hs : s.heap.IsSliceOf sl .none .none .none) (hne : l ≠ D) (h1 : xs.size ≤ 100) (h2 : ys.size ≤ 100) (hQ : Q () { s with heap := s.heap.update l (Obj.mapSeq fun zs => zs.extract 0 0 ++ ys ++ zs.extract xs.size zs.size) }), wpAny (model prog w) A (setItem (.ref l) (.ref sl) (.ref D)) Q E s) q.1 q.2.1 q.2.2.1 q.2.2.2.1 q.2.2.2.2.1 q.2.2.2.2.2.1 q.2.2.2.2.2.2.1 q.2.2.2.2.2.2.2.1 q.2.2.2.2.2.2.2.2.1 q.2.2.2.2.2.2.2.2.2.1 q.2.2.2.2.2.2.2.2.2.2.1 q.2.2.2.2.2.2.2.2.2.2.2
theorem epsN : Nonempty (Program × World × (Value → Shared → Prop) × Shared × Addr × Addr × Addr × (Array Value) × (Array Value) × Nat × Nat × Obj) := ⟨(default, Classical.choice neWorld, default, {}, default, default, default, default, default, default, default, default)⟩
@[irreducible] noncomputable def epsC : Program × World × (Value → Shared → Prop) × Shared × Addr × Addr × Addr × (Array Value) × (Array Value) × Nat × Nat × Obj := worst epsN epsP
@[irreducible] noncomputable def prog : Program := epsC.1
@[irreducible] noncomputable def w : World := epsC.2.1
@[irreducible] noncomputable def E : Value → Shared → Prop := epsC.2.2.1
@[irreducible] noncomputable def s : Shared := epsC.2.2.2.1
@[irreducible] noncomputable def D : Addr := epsC.2.2.2.2.1
@[irreducible] noncomputable def l : Addr := epsC.2.2.2.2.2.1
@[irreducible] noncomputable def sl : Addr := epsC.2.2.2.2.2.2.1
@[irreducible] noncomputable def xs : Array Value := epsC.2.2.2.2.2.2.2.1
@[irreducible] noncomputable def ys : Array Value := epsC.2.2.2.2.2.2.2.2.1
@[irreducible] noncomputable def n : Nat := epsC.2.2.2.2.2.2.2.2.2.1
@[irreducible] noncomputable def k : Nat := epsC.2.2.2.2.2.2.2.2.2.2.1
@[irreducible] noncomputable def oD : Obj := epsC.2.2.2.2.2.2.2.2.2.2.2
theorem walk (A : Around) (Q : Unit → Shared → Prop) (ho : s.heap.get? l = some (W.listOf xs n)) (hD : s.heap.get? D = some oD) (cD : oD.cls = .type "list") (dD : oD.data = .seq ys k) (hs : s.heap.IsSliceOf sl .none .none .none) (hne : l ≠ D) (h1 : xs.size ≤ 100) (h2 : ys.size ≤ 100) (hQ : Q () { s with heap := s.heap.update l (Obj.mapSeq fun zs => zs.extract 0 0 ++ ys ++ zs.extract xs.size zs.size) }) : wpAny (model prog w) A (setItem (.ref l) (.ref sl) (.ref D)) Q E s := by
  have hl : s.heap.IsList l xs := PySem.IsL.isList (n := n) ho
  obtain ⟨os, hos, hcs, hds⟩ := id hs
  have hTs : s.TypeIs (.ref sl) "slice" := ⟨os, hos, hcs⟩
  have hTD : s.TypeIs (.ref D) "list" := ⟨oD, hD, cD⟩
  unfold setItem
  try with_reducible refine wpAny_holding ?_
  first | refine wpAny_bind (wpAny_pure ?_) | skip
  refine wpAny_bind (wpAny_sequenceKey hl.typeIs (by decide) ?_)
  refine wpAny_bind (wpAny_callSpecial?_slot (name := Str.ofString "__setitem__") hl.typeIs slot_list_setitem
    (wpAny_call_entry slot_list_setitem hl.typeIs entry_list_setitem ?_ (args_list_setitem _ _ _)))
  show wpAny _ _ (Builtin.List.listSubscript? (.ref sl) >>= _) _ _ s
  refine wpAny_bind ?_
  unfold Builtin.List.listSubscript?
  refine wpAny_bind (wpAny_specialOf hTs slice_no_index ?_)
  simp only [Option.isNone_none, if_true]
  refine wpAny_pure ?_
  show wpAny _ _ (typeOf (.ref sl) >>= _) _ _ s
  refine wpAny_bind (wpAny_typeOf hTs ?_)
  rw [if_neg (by decide)]
  rw [listSliceParts_eq]
  refine wpAny_bind (wpAny_bind (wpAny_field hos hds (x := .none) rfl (wpAny_bind (wpAny_listPart .none ?_))))
  rw [if_neg (by exact Bool.false_ne_true)]
  refine wpAny_bind (wpAny_field hos hds (x := .none) rfl (wpAny_bind (wpAny_listPart .none ?_)))
  refine wpAny_bind (wpAny_field hos hds (x := .none) rfl (wpAny_bind (wpAny_listPart .none (wpAny_pure ?_))))
  have e1 : Builtin.List.listSameRef (.ref l) (.ref D) = false := by
    show (l == D) = false
    exact beq_false_of_ne hne
  rw [e1]
  dsimp only
  rw [if_neg Bool.false_ne_true]
  refine wpAny_bind ?_
  unfold Builtin.List.listAllItems
  refine wpAny_bind (wpAny_typeOf hTD ?_)
  rw [if_pos (by decide)]
  unfold Builtin.List.listItems
  refine wpAny_bind (wpAny_seqItems hD dD (wpAny_pure ?_))
  refine wpAny_bind (wpAny_bind (wpAny_seqItems ho rfl (wpAny_pure ?_)))
  refine wpAny_bind (wpAny_of_eq (sliceIndices_raw none none none xs.size (by simp)) ?_)
  have e2 : sliceBounds none none none xs.size = ((0 : Int), ((xs.size : Nat) : Int), 1) := by simp [sliceBounds]
  rw [e2]
  dsimp only
  rw [if_pos (by decide)]
  have e3 : Builtin.List.listTooLong (xs.size + ys.size) = false := by
    unfold Builtin.List.listTooLong
    simp only [decide_eq_false_iff_not, gt_iff_lt, Nat.not_lt, sizeLine_eq]
    omega
  rw [e3, if_neg Bool.false_ne_true]
  have e4 : (max (0 : Int) ((xs.size : Nat) : Int)).toNat = xs.size := by omega
  rw [e4]
  show wpAny _ _ (Builtin.List.listUpdate (.ref l) (fun zs => zs.extract 0 0 ++ ys ++ zs.extract xs.size zs.size) >>= _) _ _ _
  refine wpAny_bind (listUpdate_at ho rfl (wpAny_bind (wpAny_letGo (wpAny_pure ⟨.none, rfl, wpAny_pure hQ⟩))) (by rw [sizeLine_eq]; omega) (by rw [sizeLine_eq]; simp; omega))
theorem fin : epsP epsC := by with_unfolding_all exact fun A Q ho hD cD dD hs hne h1 h2 hQ => walk A Q ho hD cD dD hs hne h1 h2 hQ
end E_setItem_all
theorem setItem_all {prog : Program} {w : World} {A : Around} {E : Value → Shared → Prop} {s : Shared} {D : Addr} {l sl : Addr} {xs ys : Array Value} {n k : Nat} {oD : Obj} {Q : Unit → Shared → Prop} (ho : s.heap.get? l = some (W.listOf xs n)) (hD : s.heap.get? D = some oD) (cD : oD.cls = .type "list") (dD : oD.data = .seq ys k) (hs : s.heap.IsSliceOf sl .none .none .none) (hne : l ≠ D) (h1 : xs.size ≤ 100) (h2 : ys.size ≤ 100) (hQ : Q () { s with heap := s.heap.update l (Obj.mapSeq fun zs => zs.extract 0 0 ++ ys ++ zs.extract xs.size zs.size) }) : wpAny (model prog w) A (setItem (.ref l) (.ref sl) (.ref D)) Q E s := of_worst (P := E_setItem_all.epsP) (h := E_setItem_all.epsN) (by with_unfolding_all exact E_setItem_all.fin) (prog, w, E, s, D, l, sl, xs, ys, n, k, oD) A Q ho hD cD dD hs hne h1 h2 hQ
section
variable {prog : Program} {w : World} {A : Around} {E : Value → Shared → Prop} {s : Shared} {h₀ h : Heap} {L D : Addr} {m : Str → Option Value} {news news' : Led}
theorem set_all {xs : Array Value} {ys : List Value} {n n' : Nat} {l : Addr} {Q : Unit → Shared → Prop} (F : Fr h₀ L s.heap m) (N : News h₀ L s.heap news) (hD : (D, lst ys) ∈ news) (hne : l ≠ D) (h1 : xs.size ≤ 100) (h2 : ys.length ≤ 100)
    (hn : (if ys.toArray.size == xs.size then n else n + 1) = n') (U : Upd l (W.listOf xs n) (W.listOf ys.toArray n') news news')
    (h : ∀ h', Fr h₀ L h' m → News h₀ L h' news' → Q () { s with heap := h' }) :
    wpAny (model prog w) A (setItem (.ref l) (.ref s.heap.objs.size) (.ref D)) Q E { s with heap := s.heap.push { cls := .type "slice", data := .fields #[.none, .none, .none] } } := by
  obtain ⟨pre, post, rfl, rfl, a, b⟩ := U.split
  have F1 := F.push { cls := .type "slice", data := .fields #[.none, .none, .none] }
  have N1 : News h₀ L (s.heap.push { cls := .type "slice", data := .fields #[.none, .none, .none] }) _ := N.grown fun _ _ e => Heap.get?_push_of_some _ e
  have z := N1 (l, W.listOf xs n) (List.mem_append.mpr (.inr (.head _)))
  have zD := N1 (D, lst ys) hD
  refine setItem_all (xs := xs) (ys := ys.toArray) (n := n) z.1 zD.1 rfl rfl (Heap.IsSliceOf.new ..) hne h1 (by simpa using h2) ?_
  refine h _ (F1.change (Heap.SameBut.update ..) z.2.1 z.2.2) (ki_turn _ N1 a b ?_ hn)
  apply Array.toList_inj.mp
  simp
end
end
section
/-- a decision tree under given answers -/
noncomputable def evalT {α : Type} (lt : Nat → Nat → Option Bool) : KasT α → Option α
  | .ret a => some a
  | .ask i j k => match lt i j with
    | some b => evalT lt (k b)
    | none => none
theorem evalT_wp {α : Type} {lt : Nat → Nat → Option Bool} {cmp : Nat → Nat → (Bool → Shared → Prop) → Shared → Prop} {s : Shared} {Q : α → Shared → Prop} (hc : ∀ i j b C, lt i j = some b → C b s → cmp i j C s) :
    ∀ (t : KasT α) (a : α), evalT lt t = some a → Q a s → t.kasWp cmp Q s
  | .ret _, a, e, h => by cases e; exact h
  | .ask i j k, a, e, h => by
    unfold evalT at e
    cases hl : lt i j with
    | none => rw [hl] at e; cases e
    | some b => rw [hl] at e; exact hc i j b _ hl (evalT_wp hc (k b) a e h)
noncomputable def ltH (hs : List Nat) (i j : Nat) : Option Bool := match hs[i]?, hs[j]? with
  | some a, some b => if a = b then none else some (decide (a < b))
  | _, _ => none
/-- a tuple that opens with a number -/
noncomputable def KeyAt (led : Led) (v : Value) (k : Nat) : Prop := ∃ a t r n, v = .ref a ∧ (a, ({ cls := .type "tuple", data := .seq (Value.int (k : Int) t :: r).toArray n } : Obj)) ∈ led
noncomputable def KeysAt (led : Led) : List Value → List Nat → Prop
  | [], [] => True
  | v :: vs, k :: ks => KeyAt led v k ∧ KeysAt led vs ks
  | _, _ => False
theorem KeysAt.length {led : Led} : ∀ {vs : List Value} {ks : List Nat}, KeysAt led vs ks → vs.length = ks.length
  | [], [], _ => rfl
  | _ :: _, _ :: _, h => congrArg (· + 1) (KeysAt.length h.2)
theorem KeysAt.at {led : Led} : ∀ {vs : List Value} {ks : List Nat} {i k : Nat}, KeysAt led vs ks → ks[i]? = some k → ∃ v, vs[i]? = some v ∧ KeyAt led v k
  | [], [], _, _, _, e => by cases e
  | v :: _, _ :: _, 0, _, h, e => by cases e; exact ⟨v, rfl, h.1⟩
  | _ :: _, _ :: _, i + 1, _, h, e => KeysAt.at (i := i) h.2 e
theorem KeysAt.mono {led led' : Led} (hs : ∀ p ∈ led, p ∈ led') : ∀ {vs : List Value} {ks : List Nat}, KeysAt led vs ks → KeysAt led' vs ks
  | [], [], _ => trivial
  | _ :: _, _ :: _, h => ⟨let ⟨a, t, r, n, e, hm⟩ := h.1; ⟨a, t, r, n, e, hs _ hm⟩, KeysAt.mono hs h.2⟩
section
variable {prog : Program} {w : World} {A : Around} {E : Value → Shared → Prop} {s : Shared} {h₀ : Heap} {L : Addr} {m : Str → Option Value} {news : Led}
theorem KeysAt.tups : ∀ {vs : List Value} {ks : List Nat}, News h₀ L s.heap news → KeysAt news vs ks → ∃ fs, KatTups s.heap vs fs ∧ fs.length = vs.length ∧ ∀ v ∈ fs, ∃ (k : Int) (t : Tok), v = .int k t
  | [], [], _, _ => ⟨[], KatTups.nil, rfl, fun _ h => nomatch h⟩
  | _ :: _, _ :: _, N, ⟨⟨a, t, r, n, e, hm⟩, hr⟩ => by
    obtain ⟨fs, h1, h2, h3⟩ := KeysAt.tups N hr
    subst e
    exact ⟨_ :: fs, KatTups.cons (N _ hm).1 rfl rfl rfl h1, by simp [h2], List.forall_mem_cons.mpr ⟨⟨_, _, rfl⟩, h3⟩⟩
theorem key_lt {x y : Value} {a b : Nat} {Q : Bool → Shared → Prop} (N : News h₀ L s.heap news) (hx : KeyAt news x a) (hy : KeyAt news y b) (hne : a ≠ b) (h : Q (decide (a < b)) s) : wpAny (model prog w) A (keyLt' (tuples' true) x y) Q E s := by
  obtain ⟨p, t, r, n, rfl, hm⟩ := hx
  obtain ⟨p', t', r', n', rfl, hm'⟩ := hy
  refine kat_lt (N _ hm).1 rfl (N _ hm').1 rfl ?_
  rw [show ((Value.int (a : Int) t :: r).toArray.toList.zip (Value.int (b : Int) t' :: r').toArray.toList) = (Value.int (a : Int) t, Value.int (b : Int) t') :: r.zip r' from rfl]
  refine kat_cons (wpAny_eqBool_int ?_)
  have e : ((a : Int) == (b : Int)) = false := beq_eq_false_iff_ne.mpr (fun e => hne (Int.ofNat.inj e))
  rw [e]
  refine kat_no (oneLt_int ?_)
  have e2 : decide ((a : Int) < (b : Int)) = decide (a < b) := by simp
  rw [e2]
  exact h
theorem sorted_keys {l : Addr} {vs : List Value} {ks p : List Nat} {Q : Value → Shared → Prop} (F : Fr h₀ L s.heap m) (N : News h₀ L s.heap news) (hl : s.heap.IsList l vs.toArray) (hk : KeysAt news vs ks) (h2 : 2 ≤ vs.length) (h64 : vs.length < 64)
    (hp : evalT (ltH ks) (kas_sort vs.length) = some p.toArray)
    (h : ∀ D c h', Fr h₀ L h' m → News h₀ L h' ((D, W.listOf (p.map fun i => vs.getD i Value.none).toArray c) :: news) → (∀ q ∈ news, q.1 < D) → Q (.ref D) { s with heap := h' }) :
    wpAny (model prog w) A (call (.builtin "sorted") [.ref l]) Q E s := by
  refine kat_sorted F N hl h2 h64 fun D e1 h' F' N' hlt => ?_
  have N2 : News h₀ L h' news := fun q hq => N' q (List.mem_cons_of_mem _ hq)
  obtain ⟨fs, t1, t2, t3⟩ := KeysAt.tups (s := { s with heap := h' }) N2 hk
  refine kat_kind (T := .type "int") t1 (by omega) (fun v hv => ?_) rfl ?_
  · obtain ⟨k, t, rfl⟩ := t3 v hv
    exact .now
  · refine evalT_wp (lt := ltH ks) (fun i j b C e hC => ?_) _ _ hp ?_
    · unfold ltH at e
      cases hi : ks[i]? with
      | none => rw [hi] at e; cases e
      | some a =>
        cases hj : ks[j]? with
        | none => rw [hi, hj] at e; cases e
        | some b' =>
          rw [hi, hj] at e
          dsimp only at e
          by_cases hab : a = b'
          · rw [if_pos hab] at e; cases e
          · rw [if_neg hab] at e
            cases e
            obtain ⟨v, hv, kv⟩ := hk.at hi
            obtain ⟨u, hu, ku⟩ := hk.at hj
            unfold kas_ask
            rw [List.getD_eq_getElem?_getD, List.getD_eq_getElem?_getD, hv, hu]
            exact key_lt (s := { s with heap := h' }) N2 kv ku hab hC
    · exact KasFin.intro F' N' (.head fun q hq => Nat.ne_of_lt (hlt q hq)) fun h'' c F'' N'' => h D c h'' F'' N'' hlt
end
end
section
section
variable {prog : Program} {w : World} {A : Around} {E : Value → Shared → Prop} {s : Shared} {h₀ : Heap} {L : Addr} {m : Str → Option Value} {news : Led}
theorem lt_keys {x y : Value} {a b : Nat} {Q : Value → Shared → Prop} (N : News h₀ L s.heap news) (hx : KeyAt news x a) (hy : KeyAt news y b) (hne : a ≠ b) (hu : A.units < cLine) (h : Q (.bool (decide (a < b))) s) : wpAny (model prog w) A (compareOp .Lt x y) Q E s := by
  obtain ⟨p, t, r, n, rfl, hm⟩ := hx
  obtain ⟨p', t', r', n', rfl, hm'⟩ := hy
  have hT : s.TypeIs (.ref p) "tuple" := ⟨_, (N _ hm).1, rfl⟩
  have hT' : s.TypeIs (.ref p') "tuple" := ⟨_, (N _ hm').1, rfl⟩
  show wpAny _ _ (richCompare .Lt _ _) _ _ _
  refine wpAny_richCompare_same_room (op := .Lt) hT hT' F.slot_tuple_lt (wpAny_call_entry F.slot_tuple_lt hT F.entry_tuple_lt ?_ (F.args_tuple_lt_2 _ _)) hu
  show wpAny _ _ (isInstance (.ref p') (.type "tuple") >>= _) _ _ s
  refine wpAny_bind (wpAny_isInstance hT' isSubtype_tuple_tuple ?_)
  simp only [Bool.not_true, Bool.false_eq_true, if_false]
  refine wpAny_bind (wpAny_tupleItemsOf (N _ hm).1 rfl ?_)
  refine wpAny_bind (wpAny_tupleItemsOf (N _ hm').1 rfl ?_)
  refine wpAny_bind ?_
  rw [show ((Value.int (a : Int) t :: r).toArray.toList.zip (Value.int (b : Int) t' :: r').toArray.toList) = (Value.int (a : Int) t, Value.int (b : Int) t') :: r.zip r' from rfl]
  rw [List.forIn_cons]
  refine wpAny_bind ?_
  have e : ((a : Int) == (b : Int)) = false := beq_eq_false_iff_ne.mpr (fun e => hne (Int.ofNat.inj e))
  refine wpAny_bind (wpAny_eqBool_int ?_)
  rw [e]
  simp only [Bool.not_false, if_true]
  refine wpAny_bind (wpAny_rule ?_)
  refine wpAny_bind (wpAny_lt_int ?_)
  have e2 : decide ((a : Int) < (b : Int)) = decide (a < b) := by simp
  rw [e2]
  exact wpAny_pure (wpAny_pure (wpAny_pure ⟨_, rfl, (fun e => nomatch e), h⟩))
end
end
end
end
end
end
end
theorem sweepP8a {M : Model} {A : Around} {env : Env} {Q : Flow → Shared → Prop} {E : Value → Shared → Prop} {s : Shared} (h : wpAny M A (execs [] env) Q E s) : wpAny M A (execs [] env) Q E s := by w_top off; first | (walk1; fail "swept") | exact h
section
open PyProof.Rows.LCg PyProof.Rows.LCt
local macro_rules | `(tactic| walk_at "LeaveK") => `(tactic| k_extra "mv1")
local macro_rules | `(tactic| walk_at "LeaveK") => `(tactic| k_extra "mv6")
section
open PyProof.Rows.LCg PyProof.Rows.LCt
local macro_rules | `(tactic| walk_at "UnrEndW") => `(tactic| k_extra "mv7")
section
open PyProof.Rows.LCg PyProof.Rows.LCt
local macro_rules | `(tactic| walk_at "call builtin:str.replace") => `(tactic| (k_dflt (refine replace_no (by first | assumption | decide +kernel) ?_); (try dsimp only)))
section
open PyProof.Rows.LCg PyProof.Rows.LCt
local macro_rules | `(tactic| walk_at "execs cons") => `(tactic| k_extra "mv4")
section
open PyProof.Rows.LCg PyProof.Rows.LCt
local macro_rules | `(tactic| walk_at "execs nil") => `(tactic| k_extra "mv4")
section
open PyProof.Rows.LCg PyProof.Rows.LCt
local macro_rules | `(tactic| k_all) => `(tactic| k_extra "mk1")
theorem sweepP8 {M : Model} {A : Around} {env : Env} {Q : Flow → Shared → Prop} {E : Value → Shared → Prop} {s : Shared} (h : wpAny M A (execs [] env) Q E s) : wpAny M A (execs [] env) Q E s := by w_top off; first | (walk1; fail "swept") | exact h
section
open PyProof.Rows.LCg PyProof.Rows.LCt
instance (c : Nat) : Decidable (okc c) := by unfold okc; infer_instance
instance (x : Str) : Decidable (Plain x) := by unfold Plain; infer_instance
local macro_rules | `(tactic| walk_at "call ref") => `(tactic| k_extra "mv9")
local macro_rules | `(tactic| walk_at "call ref") => `(tactic| k_extra "mv10")
noncomputable abbrev pairD (q : Str × Str) : Dat := Dat.tuple [Dat.str q.1, Dat.str q.2]
/-- an item of the headers: its tuple stands in the pool -/
theorem pair_at {pool : Led} {vs : List Value} {qs : List (Str × Str)} {i : Nat} {v : Value} (hd : DatAll pool vs (qs.map pairD)) (hv : vs[i]? = some v) :
    ∃ q T t1 t2 n, qs[i]? = some q ∧ v = .ref T ∧ (T, ({ cls := .type "tuple", data := .seq #[Value.str q.1 t1, Value.str q.2 t2] n } : Obj)) ∈ pool := by
  have hi : i < (qs.map pairD).length := by rw [← hd.length]; exact (List.getElem?_eq_some_iff.mp hv).1
  obtain ⟨v', hv', hD⟩ := hd.get hi
  rw [hv] at hv'
  cases hv'
  rw [List.getElem_map] at hD
  have hi' : i < qs.length := by rw [List.length_map] at hi; exact hi
  obtain ⟨T, x, y, n, rfl, hm, h1, h2⟩ := in_two9 hD
  obtain ⟨t1, rfl⟩ := in_str9 h1
  obtain ⟨t2, rfl⟩ := in_str9 h2
  exact ⟨qs[i], T, t1, t2, n, List.getElem?_eq_getElem hi', rfl, hm⟩
theorem News.more {h₀ h : Heap} {L : Addr} {led : Led} {p : Addr × Obj} (N : News h₀ L h led) (hp : p ∈ led) : News h₀ L h (p :: led) := fun q hq => (List.mem_cons.mp hq).elim (fun e => e ▸ N p hp) (N q)
local macro_rules | `(tactic| walk_at "eval ListComp") => `(tactic| k_extra "mv11")
local macro_rules | `(tactic| walk_at "CompSrcT") => `(tactic| k_extra "mv12")
noncomputable def gotAll (nm : Str) (qs : List (Str × Str)) : List (Str × Str) := qs.filter fun q => Txt.lower q.1 == Txt.lower nm
theorem got_yes {nm : Str} {qs : List (Str × Str)} {i : Nat} {q : Str × Str} (hq : qs[i]? = some q) (h : (Txt.lower q.1 == Txt.lower nm) = true) : gotAll nm (qs.take (i + 1)) = gotAll nm (qs.take i) ++ [q] := by
  unfold gotAll
  rw [List.take_add_one, hq, List.filter_append]
  simp only [Option.toList_some, List.filter_cons, h, if_true, List.filter_nil]
theorem got_no {nm : Str} {qs : List (Str × Str)} {i : Nat} {q : Str × Str} (hq : qs[i]? = some q) (h : (Txt.lower q.1 == Txt.lower nm) = false) : gotAll nm (qs.take (i + 1)) = gotAll nm (qs.take i) := by
  unfold gotAll
  rw [List.take_add_one, hq, List.filter_append]
  simp only [Option.toList_some, List.filter_cons, h, Bool.false_eq_true, if_false, List.filter_nil, List.append_nil]
/-- a new list of data beside what stood -/
noncomputable def Listed (cells : Led) (ds : List Dat) (news' : Led) (v : Value) : Prop :=
  ∃ (l' : Addr) (ys : List Value) (n' : Nat), v = .ref l' ∧ DatAll news' ys ds ∧ ∀ p ∈ (l', W.listOf ys.toArray n') :: cells, p ∈ news'
theorem DatAll.of_nil {led : Led} {ys : List Value} {ds : List Dat} (h : DatAll [] ys ds) : DatAll led ys ds := DatAll.mono (List.forall_mem_nil _) h
namespace E_getall_spec
noncomputable def epsP (q : (World × Addr × Addr × Addr × Tok × Tok × (List Value) × Nat × Str × (List (Str × Str)) × Led) × Cx) : Prop := (fun (w : World) (x : Addr) (dx : Addr) (l : Addr) (t : Tok) (t1 : Tok) (vs : List Value) (n : Nat) (nm : Str) (qs : List (Str × Str)) (pool : Led) (cx9 : Cx) => ∀ (hd : DatAll pool vs (qs.map pairD)) (hvs : vs.length ≤ 100) (hne : @Ne Nat l x ∧ @Ne Nat l dx ∧ @Ne Nat x dx) (hnm : Plain (Txt.lower nm)) (hnl : (Txt.lower nm).length ≤ 10) (hnl2 : nm.length ≤ 10) (hql : ∀ q ∈ qs, q.1.length ≤ 10), CtrAt w 121 [.ref x, .str nm t1] [] 3 40 ((l, W.listOf vs.toArray n) :: (x, instObj 182 dx) :: (dx, hDict w t l) :: pool) (Listed ((l, W.listOf vs.toArray n) :: (x, instObj 182 dx) :: (dx, hDict w t l) :: pool) ((gotAll nm qs).map fun q => Dat.str q.2))  cx9) q.1.1 q.1.2.1 q.1.2.2.1 q.1.2.2.2.1 q.1.2.2.2.2.1 q.1.2.2.2.2.2.1 q.1.2.2.2.2.2.2.1 q.1.2.2.2.2.2.2.2.1 q.1.2.2.2.2.2.2.2.2.1 q.1.2.2.2.2.2.2.2.2.2.1 q.1.2.2.2.2.2.2.2.2.2.2 q.2
theorem epsN : Nonempty ((World × Addr × Addr × Addr × Tok × Tok × (List Value) × Nat × Str × (List (Str × Str)) × Led) × Cx) := ⟨((Classical.choice neWorld, default, default, default, default, default, default, default, default, default, default), Classical.choice neCx)⟩
@[irreducible] noncomputable def epsC : (World × Addr × Addr × Addr × Tok × Tok × (List Value) × Nat × Str × (List (Str × Str)) × Led) × Cx := worst epsN epsP
@[irreducible] noncomputable def w : World := epsC.1.1
@[irreducible] noncomputable def x : Addr := epsC.1.2.1
@[irreducible] noncomputable def dx : Addr := epsC.1.2.2.1
@[irreducible] noncomputable def l : Addr := epsC.1.2.2.2.1
@[irreducible] noncomputable def t : Tok := epsC.1.2.2.2.2.1
@[irreducible] noncomputable def t1 : Tok := epsC.1.2.2.2.2.2.1
@[irreducible] noncomputable def vs : List Value := epsC.1.2.2.2.2.2.2.1
@[irreducible] noncomputable def n : Nat := epsC.1.2.2.2.2.2.2.2.1
@[irreducible] noncomputable def nm : Str := epsC.1.2.2.2.2.2.2.2.2.1
@[irreducible] noncomputable def qs : List (Str × Str) := epsC.1.2.2.2.2.2.2.2.2.2.1
@[irreducible] noncomputable def pool : Led := epsC.1.2.2.2.2.2.2.2.2.2.2
noncomputable def ent : (TT9 : Heap → Addr → Heap → Nat → Prop) ×' (∀ (hd : DatAll pool vs (qs.map pairD)) (hvs : vs.length ≤ 100) (hne : @Ne Nat l x ∧ @Ne Nat l dx ∧ @Ne Nat x dx) (hnm : Plain (Txt.lower nm)) (hnl : (Txt.lower nm).length ≤ 10) (hnl2 : nm.length ≤ 10) (hql : ∀ q ∈ qs, q.1.length ≤ 10), Hid (∀ x0 x1 x2 x3, TT9 x0 x1 x2 x3) → CtrAt w 121 [.ref x, .str nm t1] [] 3 40 ((l, W.listOf vs.toArray n) :: (x, instObj 182 dx) :: (dx, hDict w t l) :: pool) (Listed ((l, W.listOf vs.toArray n) :: (x, instObj 182 dx) :: (dx, hDict w t l) :: pool) ((gotAll nm qs).map fun q => Dat.str q.2))  epsC.2) :=
  ⟨_, fun hd hvs hne hnm hnl hnl2 hql H => by
    intro cxB cxF cxX cxN cxT cxk cxd cxu cxr
    ((refine wpAny_call ?_; k_dflt (refine' code_cells ?z5k1 ?z5k2 ?z5k3 ?z5k4 ?z5k5 ?z5kA ?z5kF ?z5kK ?z5k6 ?z5k7 ?z5k8 ?z5k9 ?z5kB ?z5kD ?_ ?z5c2 ?z5c3 ?z5c4; (case z5kA => exact rfl); (case z5kF => exact rfl); (case z5kK => assumption); (case z5k1 => k_asm); (case z5k2 => k_asm); (case z5k3 => k_asm); (case z5k4 => k_asm); (case z5k5 => k_asm); (case z5k6 => k_is); (case z5k7 => k_is); (case z5k8 => ktr_room); (case z5k9 => first | exact BindsTo.of_eq rfl | exact binds_K (by k_in) rfl (by k_is) rfl rfl rfl | fail "mine cells: no rule for these arguments"); (case z5kB => exact rfl); (case z5kD => decide +kernel); (case z5c2 => exact rfl); (case z5c3 => exact rfl); (case z5c4 => exact rfl); k_whole)))
    exact H.out⟩
theorem entN : Nonempty (Heap × Addr × Heap × Nat) := ⟨(default, 0, default, 0)⟩
noncomputable def entP (q : Heap × Addr × Heap × Nat) : Prop := ent.1 q.1 q.2.1 q.2.2.1 q.2.2.2
@[irreducible] noncomputable def entC : Heap × Addr × Heap × Nat := worst entN entP
@[irreducible] noncomputable def gE : Heap := entC.1
@[irreducible] noncomputable def LE : Addr := entC.2.1
@[irreducible] noncomputable def hE : Heap := entC.2.2.1
@[irreducible] noncomputable def tkE : Nat := entC.2.2.2
theorem walk (hd : DatAll pool vs (qs.map pairD)) (hvs : vs.length ≤ 100) (hne : @Ne Nat l x ∧ @Ne Nat l dx ∧ @Ne Nat x dx) (hnm : Plain (Txt.lower nm)) (hnl : (Txt.lower nm).length ≤ 10) (hnl2 : nm.length ≤ 10) (hql : ∀ q ∈ qs, q.1.length ≤ 10) : CtrTo w 121 [.ref x, .str nm t1] [] 3 40 ((l, W.listOf vs.toArray n) :: (x, instObj 182 dx) :: (dx, hDict w t l) :: pool) (Listed ((l, W.listOf vs.toArray n) :: (x, instObj 182 dx) :: (dx, hDict w t l) :: pool) ((gotAll nm qs).map fun q => Dat.str q.2))  epsC.2 (ent.1 gE LE hE tkE) := by
  (intro cxB cxF cxX cxN cxT cxk cxd cxu cxr); walk_at "mine cells1"
  k_steps
  refine grow_test (fun i ys add => add = [] ∧ DatAll [] ys ((gotAll nm (qs.take i)).map fun q => Dat.str q.2)) ?step ?fin ⟨rfl, DatAll.nil⟩
  case step =>
    rintro i ys add hi ⟨rfl, hys⟩ v I oI C oC D m₂ h9 tk9 E9 hP hC hx9 F9 N9 o1 o2
    obtain ⟨q, T, u1, u2, n9, hq, rfl, hm⟩ := pair_at hd (by simpa using hP)
    rw [List.nil_append] at N9 o1
    have hq1 := hql q (List.mem_of_getElem? hq)
    have N8 := News.more N9 (p := (T, _)) (List.mem_cons_of_mem _ (List.mem_cons_of_mem _ (List.mem_cons_of_mem _ (List.mem_cons_of_mem _ (List.mem_cons_of_mem _ (List.mem_cons_of_mem _ (List.mem_cons_of_mem _ hm)))))))
    k_steps
    · refine CompEnd.intro (by assumption) N8 _ (fun p hp => List.mem_cons_of_mem _ hp) o1 (Or.inr ⟨_, by k_mem, rfl, _, rfl⟩) ⟨[], rfl, rfl, ?_⟩
      rw [got_yes hq (by assumption), List.map_append]
      exact hys.append (DatAll.one (DatIn.str _ _))
    · refine CompEnd.intro (by assumption) N8 _ (fun p hp => List.mem_cons_of_mem _ hp) o1 (Or.inr ⟨_, by k_mem, rfl, _, rfl⟩) ⟨[], rfl, rfl, ?_⟩
      rw [got_no hq (by assumption)]
      exact hys
  case fin =>
    rintro ys add ⟨rfl, hys⟩
    rw [List.size_toArray, show vs.length = qs.length from by rw [hd.length, List.length_map], List.take_length] at hys
    k_steps
    exact ⟨_, ys, _, rfl, DatAll.of_nil hys, List.forall_mem_cons.mpr ⟨List.mem_cons_self, fun p hp => List.mem_cons_of_mem _ (List.mem_cons_of_mem _ hp)⟩⟩
theorem walk2 (hd : DatAll pool vs (qs.map pairD)) (hvs : vs.length ≤ 100) (hne : @Ne Nat l x ∧ @Ne Nat l dx ∧ @Ne Nat x dx) (hnm : Plain (Txt.lower nm)) (hnl : (Txt.lower nm).length ≤ 10) (hnl2 : nm.length ≤ 10) (hql : ∀ q ∈ qs, q.1.length ≤ 10) : CtrTo w 121 [.ref x, .str nm t1] [] 3 40 ((l, W.listOf vs.toArray n) :: (x, instObj 182 dx) :: (dx, hDict w t l) :: pool) (Listed ((l, W.listOf vs.toArray n) :: (x, instObj 182 dx) :: (dx, hDict w t l) :: pool) ((gotAll nm qs).map fun q => Dat.str q.2))  epsC.2 (entP entC) := by with_unfolding_all exact walk hd hvs hne hnm hnl hnl2 hql
theorem fin : epsP epsC := by
  with_unfolding_all exact fun hd hvs hne hnm hnl hnl2 hql cxB cxF cxX cxN cxT cxk cxd cxu cxr => ent.2 hd hvs hne hnm hnl hnl2 hql ⟨fun x0 x1 x2 x3 => of_worst (P := entP) (h := entN) (by with_unfolding_all exact walk2 hd hvs hne hnm hnl hnl2 hql cxB cxF cxX cxN cxT cxk cxd cxu cxr) (x0, x1, x2, x3)⟩ cxB cxF cxX cxN cxT cxk cxd cxu cxr
end E_getall_spec
theorem getall_spec (w : World) (x dx l : Addr) (t t1 : Tok) (vs : List Value) (n : Nat) (nm : Str) (qs : List (Str × Str)) (pool : Led) (hd : DatAll pool vs (qs.map pairD)) (hvs : vs.length ≤ 100) (hne : @Ne Nat l x ∧ @Ne Nat l dx ∧ @Ne Nat x dx) (hnm : Plain (Txt.lower nm)) (hnl : (Txt.lower nm).length ≤ 10) (hnl2 : nm.length ≤ 10) (hql : ∀ q ∈ qs, q.1.length ≤ 10) : Ctr w 121 [.ref x, .str nm t1] [] 3 40 ((l, W.listOf vs.toArray n) :: (x, instObj 182 dx) :: (dx, hDict w t l) :: pool) (Listed ((l, W.listOf vs.toArray n) :: (x, instObj 182 dx) :: (dx, hDict w t l) :: pool) ((gotAll nm qs).map fun q => Dat.str q.2)) := ctr_of fun c9 => of_worst (P := E_getall_spec.epsP) (h := E_getall_spec.epsN) (by with_unfolding_all exact E_getall_spec.fin) ((w, x, dx, l, t, t1, vs, n, nm, qs, pool), c9) hd hvs hne hnm hnl hnl2 hql
end
theorem sweepP12a {M : Model} {A : Around} {env : Env} {Q : Flow → Shared → Prop} {E : Value → Shared → Prop} {s : Shared} (h : wpAny M A (execs [] env) Q E s) : wpAny M A (execs [] env) Q E s := by w_top off; first | (walk1; fail "swept") | exact h
theorem sweepP12 {M : Model} {A : Around} {env : Env} {Q : Flow → Shared → Prop} {E : Value → Shared → Prop} {s : Shared} (h : wpAny M A (execs [] env) Q E s) : wpAny M A (execs [] env) Q E s := by w_top off; first | (walk1; fail "swept") | exact h
section
open PyProof.Rows.LCg PyProof.Rows.LCt
noncomputable abbrev hl (g : Nat → Addr) (ks : List Nat) : List Value := ks.map fun k => Value.ref (g k)
section
variable {prog : Program} {w : World} {A : Around} {E : Value → Shared → Prop} {s : Shared} {h₀ : Heap} {L l : Addr} {m : Str → Option Value} {news news' : Led} {g : Nat → Addr} {ks : List Nat} {n : Nat}
theorem item_key {value slice : Expr} {i k : Nat} {ki : Int} {u : Tok} {Q : Value → Shared → Prop} (N : News h₀ L s.heap news) (hm : (l, W.listOf (hl g ks).toArray n) ∈ news) (hi : ki = (i : Int)) (hk : ks[i]? = some k) (hlen : ks.length ≤ 50) (h : Q (.ref (g k)) s)
    (hs : subscripted slice false (.ref l) (.int ki u) = operate [.ref l, .int ki u] (getItem (.ref l) (.int ki u)) := by with_unfolding_all rfl) (hg : ∀ r, letTemporaryGo value (.ref l) r = pure () := by intro _; with_unfolding_all rfl) :
    wpAny (model prog w) A (subscriptTail value slice (.ref l) (.int ki u)) Q E s := by
  have hlt : i < ks.length := by
    rw [List.getElem?_eq_some_iff] at hk
    exact hk.1
  refine item_listL (l := hl g ks) (PySem.IsL.isList (n := n) (N _ hm).1) (by omega) (by omega) ?_ h hs hg
  rw [hi, Int.toNat_natCast, List.getElem?_map, hk]
  rfl
theorem set_key {i k : Nat} {ki : Int} {u : Tok} {Q : Unit → Shared → Prop} (F : Fr h₀ L s.heap m) (N : News h₀ L s.heap news) (hi : ki = (i : Int)) (hlt : i < ks.length) (hlen : ks.length ≤ 50) (U : Upd l (W.listOf (hl g ks).toArray n) (W.listOf (hl g (ks.set i k)).toArray n) news news')
    (h : ∀ h', Fr h₀ L h' m → News h₀ L h' news' → Q () { s with heap := h' }) :
    wpAny (model prog w) A (setItem (.ref l) (.int ki u) (.ref (g k))) Q E s := by
  obtain ⟨pre, post, rfl, rfl, a, b⟩ := U.split
  have z := N (l, W.listOf (hl g ks).toArray n) (List.mem_append.mpr (.inr (.head _)))
  refine ki_setAt (n := n) z.1 (by omega) (by omega) (by simp; omega) (h _ (F.change (Heap.SameBut.update ..) z.2.1 z.2.2) (ki_turn _ N a b ?_ ?_))
  · rw [hi, Int.toNat_natCast]
    apply Array.toList_inj.mp
    simp [List.map_set]
  · simp
end
noncomputable def Paused (P : Prop) : Prop := P
theorem Paused.intro {P : Prop} (h : Paused P) : P := h
section
variable {prog : Program} {w : World} {A : Around} {E : Value → Shared → Prop} {Q : Flow → Shared → Prop} {s : Shared} {env : Env} {h₀ : Heap} {L : Addr}
/-- a while by two whole numbers of its frame -/
theorem While_nat2 {test : Expr} {body : List Stmt} {pos : Pos} {m₀ : Str → Option Value} {news : Led} (x x' : Str) (hxx : ¬ x' = x) (st : List Str) (J : Nat → Nat → Nat → Led → Prop) {n₀ i₀ j₀ : Nat} {t₀ t₁ : Tok}
    (F : Fr h₀ L s.heap m₀) (N : News h₀ L s.heap news) (hx : m₀ x = some (.int (i₀ : Int) t₀)) (hx' : m₀ x' = some (.int (j₀ : Int) t₁)) (hJ : J n₀ i₀ j₀ news)
    (turn : ∀ (n i j : Nat) (t t' : Tok) (u : Str → Option Value) (news₁ : Led) (h₁ : Heap) (tk₁ : Nat), Fr h₀ L h₁ (fun y => if y = x then some (.int (i : Int) t) else if y = x' then some (.int (j : Int) t') else if st.contains y = true then u y else m₀ y) → News h₀ L h₁ news₁ → J n i j news₁ →
      wpAny (model prog w) A (isTrue test env (eval test env)) (fun b s₂ =>
        if b = true then wpAny (model prog w) A (execs body env) (WhileStep2 h₀ L s (fun n' m' news' => ∃ i' j' t t', m' x = some (.int ((i' : Nat) : Int) t) ∧ m' x' = some (.int ((j' : Nat) : Int) t') ∧ (∀ y, ¬ y = x → ¬ y = x' → st.contains y = false → m' y = m₀ y) ∧ J n' i' j' news') Q n) E s₂ else Q .next s₂) E { s with heap := h₁, toks := tk₁ })
    (hE : PassesOwn (model prog w) A env E) :
    wpAny (model prog w) A (exec (.While test body [] pos) env) Q E s := by
  refine While_inv2 (fun n' m' news' => ∃ i' j' t t', m' x = some (.int ((i' : Nat) : Int) t) ∧ m' x' = some (.int ((j' : Nat) : Int) t') ∧ (∀ y, ¬ y = x → ¬ y = x' → st.contains y = false → m' y = m₀ y) ∧ J n' i' j' news') F N ⟨i₀, j₀, t₀, t₁, hx, hx', fun _ _ _ _ => rfl, hJ⟩ ?_ hE
  rintro n m₁ news₁ h₁ tk₁ F₁ N₁ ⟨i, j, t, t', e1, e2, e3, hj⟩
  have e : m₁ = fun y => if y = x then some (.int (i : Int) t) else if y = x' then some (.int (j : Int) t') else if st.contains y = true then m₁ y else m₀ y := by
    funext y
    by_cases h1 : y = x
    · rw [if_pos h1, h1, e1]
    · rw [if_neg h1]
      by_cases h2 : y = x'
      · rw [if_pos h2, h2, e2]
      · rw [if_neg h2]
        by_cases h3 : st.contains y = true
        · rw [if_pos h3]
        · rw [if_neg h3]; exact e3 y h1 h2 (by simpa using h3)
  rw [e] at F₁
  exact turn n i j t t' m₁ news₁ h₁ tk₁ F₁ N₁ hj
end
noncomputable def NatStep (x x' : Str) (st : List Str) (m₀ : Str → Option Value) (J : Nat → Nat → Nat → Led → Prop) (n' : Nat) (m' : Str → Option Value) (news' : Led) : Prop :=
  ∃ i' j' t t', m' x = some (.int ((i' : Nat) : Int) t) ∧ m' x' = some (.int ((j' : Nat) : Int) t') ∧ (∀ y, ¬ y = x → ¬ y = x' → st.contains y = false → m' y = m₀ y) ∧ J n' i' j' news'
theorem nat_cont {Q : Flow → Shared → Prop} {s : Shared} {h₀ h' : Heap} {L : Addr} {x x' : Str} {st : List Str} {m₀ m₂ : Str → Option Value} {J : Nat → Nat → Nat → Led → Prop} {news₂ : Led} {n n' tk : Nat} {v v' : Int} {t t' : Tok} (i' j' : Nat) (fl : Flow) (hf : fl = .next ∨ fl = .cont)
    (F : Fr h₀ L h' m₂) (N : News h₀ L h' news₂) (hn : n' < n) (e1 : m₂ x = some (.int v t)) (e2 : m₂ x' = some (.int v' t')) (hv : v = (i' : Int)) (hv' : v' = (j' : Int)) (hk : ∀ y, ¬ y = x → ¬ y = x' → st.contains y = false → m₂ y = m₀ y) (hJ : J n' i' j' news₂) :
    WhileStep2 h₀ L s (fun n' m' news' => ∃ i' j' t t', m' x = some (.int ((i' : Nat) : Int) t) ∧ m' x' = some (.int ((j' : Nat) : Int) t') ∧ (∀ y, ¬ y = x → ¬ y = x' → st.contains y = false → m' y = m₀ y) ∧ J n' i' j' news') Q n fl { s with heap := h', toks := tk } := by
  subst hv hv'
  rcases hf with rfl | rfl <;> exact ⟨_, _, _, _, _, rfl, F, N, hn, _, _, _, _, e1, e2, hk, hJ⟩
local macro_rules | `(tactic| walk_at "exec While Compare cons nil") => `(tactic| refine Paused.intro ?_)
noncomputable def sdGo (new : Nat) : Nat → List Nat → Nat → List Nat
  | 0, ks, pos => ks.set pos new
  | f + 1, ks, pos => if pos = 0 then ks.set pos new else match ks[(pos - 1) / 2]? with
    | some par => if new < par then sdGo new f (ks.set pos par) ((pos - 1) / 2) else ks.set pos new
    | none => ks.set pos new
noncomputable def HeapNow (l : Addr) (pool : Led) (g : Nat → Addr) (ks : List Nat) (led : Led) (v : Value) : Prop :=
  v = .none ∧ ∃ n, ∀ p ∈ (l, W.listOf (hl g ks).toArray n) :: pool, p ∈ led
theorem KeyAt.sub {led led' : Led} {v : Value} {k : Nat} (h : KeyAt led v k) (hs : ∀ p ∈ led, p ∈ led') : KeyAt led' v k := let ⟨a, t, r, n, e, hm⟩ := h; ⟨a, t, r, n, e, hs _ hm⟩
local macro_rules | `(tactic| walk_at "subscriptTail") => `(tactic| (k_dflt (refine' item_key (i := ?ki) ?kN ?km ?kh ?kk ?kl ?_; (case kN => k_asm); (case km => k_mem); (case kk => assumption); (case kh => first | assumption | rfl | omega); (case kl => first | assumption | omega))))
local macro_rules | `(tactic| walk_at "compareOp Lt ref ref") => `(tactic| k_extra "mv13")
local macro_rules | `(tactic| walk_at "setItem ref int") => `(tactic| (k_dflt (refine' set_key (i := ?ki) ?kF ?kN ?kh ?kt ?kl ?kU ?_; (case kF => k_asm); (case kN => k_asm); (case kh => rfl); (case kU => k_upd); (case kt => assumption); (case kl => assumption)); intro h' F' N'))
theorem par_eq {p : Nat} (h : 0 < p) : ((p : Int) - 1).fdiv (2 ^ Int.toNat 1) = (((p - 1) / 2 : Nat) : Int) := by
  have e : ((p : Int) - 1) = ((p - 1 : Nat) : Int) := by omega
  rw [e, Int.fdiv_eq_ediv_of_nonneg _ (by decide)]
  rfl
namespace E_sd_spec
noncomputable def epsP (q : (World × Addr × Tok × Tok × (List Nat) × (Nat → Addr) × Nat × Nat × Nat × Led) × Cx) : Prop := (fun (w : World) (l : Addr) (t1 : Tok) (t2 : Tok) (ks : List Nat) (g : Nat → Addr) (n : Nat) (pos : Nat) (new : Nat) (pool : Led) (cx9 : Cx) => ∀ (hg : ∀ k ∈ ks, KeyAt pool (.ref (g k)) k) (hlen : ks.length ≤ 50) (hpl : ∀ p ∈ pool, p.1 ≠ l) (hnew : ks[pos]? = some new) (hdist : ∀ i k, i < pos → ks[i]? = some k → k ≠ new), CtrAt w 207 [.ref l, .int 0 t1, .int (pos : Int) t2] [] 3 40 ((l, W.listOf (hl g ks).toArray n) :: pool) (HeapNow l pool g (sdGo new (pos + 1) ks pos))  cx9) q.1.1 q.1.2.1 q.1.2.2.1 q.1.2.2.2.1 q.1.2.2.2.2.1 q.1.2.2.2.2.2.1 q.1.2.2.2.2.2.2.1 q.1.2.2.2.2.2.2.2.1 q.1.2.2.2.2.2.2.2.2.1 q.1.2.2.2.2.2.2.2.2.2 q.2
theorem epsN : Nonempty ((World × Addr × Tok × Tok × (List Nat) × (Nat → Addr) × Nat × Nat × Nat × Led) × Cx) := ⟨((Classical.choice neWorld, default, default, default, default, default, default, default, default, default), Classical.choice neCx)⟩
@[irreducible] noncomputable def epsC : (World × Addr × Tok × Tok × (List Nat) × (Nat → Addr) × Nat × Nat × Nat × Led) × Cx := worst epsN epsP
@[irreducible] noncomputable def w : World := epsC.1.1
@[irreducible] noncomputable def l : Addr := epsC.1.2.1
@[irreducible] noncomputable def t1 : Tok := epsC.1.2.2.1
@[irreducible] noncomputable def t2 : Tok := epsC.1.2.2.2.1
@[irreducible] noncomputable def ks : List Nat := epsC.1.2.2.2.2.1
@[irreducible] noncomputable def g : Nat → Addr := epsC.1.2.2.2.2.2.1
@[irreducible] noncomputable def n : Nat := epsC.1.2.2.2.2.2.2.1
@[irreducible] noncomputable def pos : Nat := epsC.1.2.2.2.2.2.2.2.1
@[irreducible] noncomputable def new : Nat := epsC.1.2.2.2.2.2.2.2.2.1
@[irreducible] noncomputable def pool : Led := epsC.1.2.2.2.2.2.2.2.2.2
noncomputable def ent : (TT9 : Heap → Addr → Heap → Prop) ×' (∀ (hg : ∀ k ∈ ks, KeyAt pool (.ref (g k)) k) (hlen : ks.length ≤ 50) (hpl : ∀ p ∈ pool, p.1 ≠ l) (hnew : ks[pos]? = some new) (hdist : ∀ i k, i < pos → ks[i]? = some k → k ≠ new), Hid (∀ x0 x1 x2, TT9 x0 x1 x2) → CtrAt w 207 [.ref l, .int 0 t1, .int (pos : Int) t2] [] 3 40 ((l, W.listOf (hl g ks).toArray n) :: pool) (HeapNow l pool g (sdGo new (pos + 1) ks pos))  epsC.2) :=
  ⟨_, fun hg hlen hpl hnew hdist H => by
    intro cxB cxF cxX cxN cxT cxk cxd cxu cxr
    ((refine wpAny_call ?_; k_dflt (refine' code_defG ?z6k1 ?z6k2 ?z6k3 ?z6k4 ?z6k5 ?z6kA ?z6kF ?z6kK ?z6k6 ?z6k7 ?z6k8 ?z6k9 ?z6kB ?_ ?z6c2 ?z6c3 ?z6c4 ?z6c5; (case z6kA => exact rfl); (case z6kF => exact rfl); (case z6kK => assumption); (case z6k1 => k_asm); (case z6k2 => k_asm); (case z6k3 => k_asm); (case z6k4 => k_asm); (case z6k5 => k_asm); (case z6k6 => k_is); (case z6k7 => k_is); (case z6k8 => ktr_room); (case z6k9 => first | exact BindsTo.of_eq rfl | exact binds_K (by k_in) rfl (by k_is) rfl rfl rfl | fail "mine enter: no rule for these arguments"); (case z6c5 => decide); (case z6kB => exact locs rfl); (case z6c2 => exact rfl); (case z6c3 => exact rfl); (case z6c4 => exact rfl); k_whole)))
    exact H.out⟩
theorem entN : Nonempty (Heap × Addr × Heap) := ⟨(default, 0, default)⟩
noncomputable def entP (q : Heap × Addr × Heap) : Prop := ent.1 q.1 q.2.1 q.2.2
@[irreducible] noncomputable def entC : Heap × Addr × Heap := worst entN entP
@[irreducible] noncomputable def gE : Heap := entC.1
@[irreducible] noncomputable def LE : Addr := entC.2.1
@[irreducible] noncomputable def hE : Heap := entC.2.2
theorem walk (hg : ∀ k ∈ ks, KeyAt pool (.ref (g k)) k) (hlen : ks.length ≤ 50) (hpl : ∀ p ∈ pool, p.1 ≠ l) (hnew : ks[pos]? = some new) (hdist : ∀ i k, i < pos → ks[i]? = some k → k ≠ new) : CtrTo w 207 [.ref l, .int 0 t1, .int (pos : Int) t2] [] 3 40 ((l, W.listOf (hl g ks).toArray n) :: pool) (HeapNow l pool g (sdGo new (pos + 1) ks pos))  epsC.2 (ent.1 gE LE hE) := by
  (intro cxB cxF cxX cxN cxT cxk cxd cxu cxr); walk_at "mine pure1"
  have hlt : pos < ks.length := (List.getElem?_eq_some_iff.mp hnew).1
  have hkn : KeyAt pool (.ref (g new)) new := hg new (List.mem_of_getElem? hnew)
  k_steps
  unfold Paused
  refine While_nat2 (Str.ofString "pos") (Str.ofString "startpos") (by decide +kernel) [Str.ofString "parentpos", Str.ofString "parent"]
    (fun f p z led => z = 0 ∧ ∃ ks', led = (l, W.listOf (hl g ks').toArray n) :: pool ∧ ks'.length = ks.length ∧ p < ks.length ∧ p < f ∧ (∀ k ∈ ks', k ∈ ks) ∧ (∀ i k, i < p → ks'[i]? = some k → k ≠ new) ∧ sdGo new f ks' p = sdGo new (pos + 1) ks pos)
    (n₀ := pos + 1) (i₀ := pos) (j₀ := 0) (by assumption) (by assumption) rfl rfl ⟨rfl, ks, rfl, rfl, hlt, Nat.lt_succ_self _, fun _ h => h, hdist, rfl⟩ ?turn (by passes_own)
  case turn =>
    clear hnew
    rintro f p z t t' u led h9 tk9 F9 N9 ⟨rfl, ks', rfl, hl', hp, hpf, hsub, hd', hgo⟩
    have hl50 : ks'.length ≤ 50 := by omega
    have hp2 : p < ks'.length := by omega
    rcases Nat.eq_zero_or_pos p with rfl | hp0
    · k_steps
      refine ⟨rfl, n, ?_⟩
      rw [← hgo, show sdGo new f ks' 0 = ks'.set 0 new from by cases f <;> rfl]
      first | done | exact fun _ h => h
    · have hpar := par_eq hp0
      obtain ⟨par, hk⟩ : ∃ par, ks'[(p - 1) / 2]? = some par := ⟨_, List.getElem?_eq_getElem (by omega)⟩
      have hkp : KeyAt pool (.ref (g par)) par := hg par (hsub _ (List.mem_of_getElem? hk))
      have hnp : new ≠ par := fun e => hd' _ _ (by omega) hk e.symm
      obtain ⟨f, rfl⟩ : ∃ f', f = f' + 1 := ⟨f - 1, by omega⟩
      have hstep : sdGo new (f + 1) ks' p = if new < par then sdGo new f (ks'.set p par) ((p - 1) / 2) else ks'.set p new := by
        rw [sdGo, if_neg (by omega), hk]
      k_steps
      (k_dflt (refine' item_key (i := ?ki) ?kN ?km ?kh ?kk ?kl ?_))
      case kN => k_asm
      case km => k_mem
      case kk => assumption
      case kh => assumption
      case kl => assumption
      k_steps
      · walk_at "setItem ref int"
        k_steps
        refine nat_cont ((p - 1) / 2) 0 _ (.inr rfl) (by assumption) (by assumption) (Nat.lt_succ_self _) (if_pos rfl) (by with_unfolding_all rfl) hpar rfl ?_ ?_
        · intro y h1 h2 h3
          rw [if_neg h1, if_neg (off_st h3 (by decide +kernel)), if_neg (off_st h3 (by decide +kernel)), if_neg h1, if_neg h2, if_neg (off_in h3)]
        · refine ⟨rfl, ks'.set p par, rfl, by rw [List.length_set, hl'], by omega, by omega, ?_, ?_, ?_⟩
          · intro k hk9
            rcases List.mem_or_eq_of_mem_set hk9 with h | rfl
            · exact hsub k h
            · exact hsub _ (List.mem_of_getElem? hk)
          · intro i k hi hik
            rw [List.getElem?_set_ne (by omega)] at hik
            exact hd' i k (by omega) hik
          · rw [← hgo, hstep, if_pos (by first | assumption | omega | (simpa using (by assumption : decide (new < par) = true)))]
      · dsimp only [WhileStep2]
        k_steps
        walk_at "setItem ref int"
        k_steps
        have hB := (by assumption : Back _ _ _ _ _ _ _)
        have hG := (by assumption : GSub _ _ _)
        have F8 := (by assumption : Fr _ _ _ _)
        refine hB _ _ _ _ (by assumption) (by assumption) (fun b o e n => (by assumption : Fr _ _ _ _).keep b o (hG b o e n)) ⟨rfl, n, ?_⟩
        rw [← hgo, hstep, if_neg (by first | assumption | omega | (simpa using (by assumption : decide (new < par) = false)))]
        exact fun _ h => h
theorem walk2 (hg : ∀ k ∈ ks, KeyAt pool (.ref (g k)) k) (hlen : ks.length ≤ 50) (hpl : ∀ p ∈ pool, p.1 ≠ l) (hnew : ks[pos]? = some new) (hdist : ∀ i k, i < pos → ks[i]? = some k → k ≠ new) : CtrTo w 207 [.ref l, .int 0 t1, .int (pos : Int) t2] [] 3 40 ((l, W.listOf (hl g ks).toArray n) :: pool) (HeapNow l pool g (sdGo new (pos + 1) ks pos))  epsC.2 (entP entC) := by with_unfolding_all exact walk hg hlen hpl hnew hdist
theorem fin : epsP epsC := by
  with_unfolding_all exact fun hg hlen hpl hnew hdist cxB cxF cxX cxN cxT cxk cxd cxu cxr => ent.2 hg hlen hpl hnew hdist ⟨fun x0 x1 x2 => of_worst (P := entP) (h := entN) (by with_unfolding_all exact walk2 hg hlen hpl hnew hdist cxB cxF cxX cxN cxT cxk cxd cxu cxr) (x0, x1, x2)⟩ cxB cxF cxX cxN cxT cxk cxd cxu cxr
end E_sd_spec
theorem sd_spec (w : World) (l : Addr) (t1 t2 : Tok) (ks : List Nat) (g : Nat → Addr) (n pos new : Nat) (pool : Led) (hg : ∀ k ∈ ks, KeyAt pool (.ref (g k)) k) (hlen : ks.length ≤ 50) (hpl : ∀ p ∈ pool, p.1 ≠ l) (hnew : ks[pos]? = some new) (hdist : ∀ i k, i < pos → ks[i]? = some k → k ≠ new) : Ctr w 207 [.ref l, .int 0 t1, .int (pos : Int) t2] [] 3 40 ((l, W.listOf (hl g ks).toArray n) :: pool) (HeapNow l pool g (sdGo new (pos + 1) ks pos)) := ctr_of fun c9 => of_worst (P := E_sd_spec.epsP) (h := E_sd_spec.epsN) (by with_unfolding_all exact E_sd_spec.fin) ((w, l, t1, t2, ks, g, n, pos, new, pool), c9) hg hlen hpl hnew hdist
end
theorem sweepP9a {M : Model} {A : Around} {env : Env} {Q : Flow → Shared → Prop} {E : Value → Shared → Prop} {s : Shared} (h : wpAny M A (execs [] env) Q E s) : wpAny M A (execs [] env) Q E s := by w_top off; first | (walk1; fail "swept") | exact h
section
open PyProof.Rows.LCg PyProof.Rows.LCt
local macro_rules | `(tactic| walk_at "CompSrcT") => `(tactic| k_extra "mv12")
section
open PyProof.Rows.LCg PyProof.Rows.LCt
local macro_rules | `(tactic| walk_at "call ref") => `(tactic| k_extra "mv9")
local macro_rules | `(tactic| walk_at "call ref") => `(tactic| k_extra "mv10")
section
open PyProof.Rows.LCg PyProof.Rows.LCt
local macro_rules | `(tactic| walk_at "eval ListComp") => `(tactic| k_extra "mv11")
theorem sweepP9 {M : Model} {A : Around} {env : Env} {Q : Flow → Shared → Prop} {E : Value → Shared → Prop} {s : Shared} (h : wpAny M A (execs [] env) Q E s) : wpAny M A (execs [] env) Q E s := by w_top off; first | (walk1; fail "swept") | exact h
section
open PyProof.Rows.LCg PyProof.Rows.LCt
noncomputable def stayed (nm : Str) (qs : List (Str × Str)) : List (Str × Str) := qs.filter fun q => Txt.lower q.1 != Txt.lower nm
theorem stay_yes {nm : Str} {qs : List (Str × Str)} {i : Nat} {q : Str × Str} (hq : qs[i]? = some q) (h : (Txt.lower q.1 != Txt.lower nm) = true) : stayed nm (qs.take (i + 1)) = stayed nm (qs.take i) ++ [q] := by
  unfold stayed
  rw [List.take_add_one, hq, List.filter_append]
  simp only [Option.toList_some, List.filter_cons, h, if_true, List.filter_nil]
theorem stay_no {nm : Str} {qs : List (Str × Str)} {i : Nat} {q : Str × Str} (hq : qs[i]? = some q) (h : (Txt.lower q.1 != Txt.lower nm) = false) : stayed nm (qs.take (i + 1)) = stayed nm (qs.take i) := by
  unfold stayed
  rw [List.take_add_one, hq, List.filter_append]
  simp only [Option.toList_some, List.filter_cons, h, Bool.false_eq_true, if_false, List.filter_nil, List.append_nil]
/-- the list of a Headers object that stands in the ledger -/
noncomputable def Held (w : World) (l x dx : Addr) (t : Tok) (pool : Led) (qs : List (Str × Str)) (led : Led) (v : Value) : Prop :=
  v = .none ∧ ∃ vs n, DatAll pool vs (qs.map pairD) ∧ vs.length ≤ 100 ∧ ∀ p ∈ (l, W.listOf vs.toArray n) :: (x, instObj 182 dx) :: (dx, hDict w t l) :: pool, p ∈ led
namespace E_del_spec
noncomputable def epsP (q : (World × Addr × Addr × Addr × Tok × Tok × (List Value) × Nat × Str × (List (Str × Str)) × Led) × Cx) : Prop := (fun (w : World) (x : Addr) (dx : Addr) (l : Addr) (t : Tok) (t1 : Tok) (vs : List Value) (n : Nat) (nm : Str) (qs : List (Str × Str)) (pool : Led) (cx9 : Cx) => ∀ (hd : DatAll pool vs (qs.map pairD)) (hvs : vs.length ≤ 100) (hne : @Ne Nat l x ∧ @Ne Nat l dx ∧ @Ne Nat x dx) (hpl : ∀ p ∈ pool, p.1 ≠ l) (hnm : Plain (Txt.lower nm)) (hnl : (Txt.lower nm).length ≤ 10) (hnl2 : nm.length ≤ 10) (hql : ∀ q ∈ qs, q.1.length ≤ 10), CtrAt w 102 [.ref x, .str nm t1] [] 3 40 ((l, W.listOf vs.toArray n) :: (x, instObj 182 dx) :: (dx, hDict w t l) :: pool) (Held w l x dx t pool (stayed nm qs))  cx9) q.1.1 q.1.2.1 q.1.2.2.1 q.1.2.2.2.1 q.1.2.2.2.2.1 q.1.2.2.2.2.2.1 q.1.2.2.2.2.2.2.1 q.1.2.2.2.2.2.2.2.1 q.1.2.2.2.2.2.2.2.2.1 q.1.2.2.2.2.2.2.2.2.2.1 q.1.2.2.2.2.2.2.2.2.2.2 q.2
theorem epsN : Nonempty ((World × Addr × Addr × Addr × Tok × Tok × (List Value) × Nat × Str × (List (Str × Str)) × Led) × Cx) := ⟨((Classical.choice neWorld, default, default, default, default, default, default, default, default, default, default), Classical.choice neCx)⟩
@[irreducible] noncomputable def epsC : (World × Addr × Addr × Addr × Tok × Tok × (List Value) × Nat × Str × (List (Str × Str)) × Led) × Cx := worst epsN epsP
@[irreducible] noncomputable def w : World := epsC.1.1
@[irreducible] noncomputable def x : Addr := epsC.1.2.1
@[irreducible] noncomputable def dx : Addr := epsC.1.2.2.1
@[irreducible] noncomputable def l : Addr := epsC.1.2.2.2.1
@[irreducible] noncomputable def t : Tok := epsC.1.2.2.2.2.1
@[irreducible] noncomputable def t1 : Tok := epsC.1.2.2.2.2.2.1
@[irreducible] noncomputable def vs : List Value := epsC.1.2.2.2.2.2.2.1
@[irreducible] noncomputable def n : Nat := epsC.1.2.2.2.2.2.2.2.1
@[irreducible] noncomputable def nm : Str := epsC.1.2.2.2.2.2.2.2.2.1
@[irreducible] noncomputable def qs : List (Str × Str) := epsC.1.2.2.2.2.2.2.2.2.2.1
@[irreducible] noncomputable def pool : Led := epsC.1.2.2.2.2.2.2.2.2.2.2
noncomputable def ent : (TT9 : Heap → Addr → Heap → Nat → Prop) ×' (∀ (hd : DatAll pool vs (qs.map pairD)) (hvs : vs.length ≤ 100) (hne : @Ne Nat l x ∧ @Ne Nat l dx ∧ @Ne Nat x dx) (hpl : ∀ p ∈ pool, p.1 ≠ l) (hnm : Plain (Txt.lower nm)) (hnl : (Txt.lower nm).length ≤ 10) (hnl2 : nm.length ≤ 10) (hql : ∀ q ∈ qs, q.1.length ≤ 10), Hid (∀ x0 x1 x2 x3, TT9 x0 x1 x2 x3) → CtrAt w 102 [.ref x, .str nm t1] [] 3 40 ((l, W.listOf vs.toArray n) :: (x, instObj 182 dx) :: (dx, hDict w t l) :: pool) (Held w l x dx t pool (stayed nm qs))  epsC.2) :=
  ⟨_, fun hd hvs hne hpl hnm hnl hnl2 hql H => by
    intro cxB cxF cxX cxN cxT cxk cxd cxu cxr
    ((refine wpAny_call ?_; k_dflt (refine' code_cells ?z7k1 ?z7k2 ?z7k3 ?z7k4 ?z7k5 ?z7kA ?z7kF ?z7kK ?z7k6 ?z7k7 ?z7k8 ?z7k9 ?z7kB ?z7kD ?_ ?z7c2 ?z7c3 ?z7c4; (case z7kA => exact rfl); (case z7kF => exact rfl); (case z7kK => assumption); (case z7k1 => k_asm); (case z7k2 => k_asm); (case z7k3 => k_asm); (case z7k4 => k_asm); (case z7k5 => k_asm); (case z7k6 => k_is); (case z7k7 => k_is); (case z7k8 => ktr_room); (case z7k9 => first | exact BindsTo.of_eq rfl | exact binds_K (by k_in) rfl (by k_is) rfl rfl rfl | fail "mine cells: no rule for these arguments"); (case z7kB => exact rfl); (case z7kD => decide +kernel); (case z7c2 => exact rfl); (case z7c3 => exact rfl); (case z7c4 => exact rfl); k_whole)))
    exact H.out⟩
theorem entN : Nonempty (Heap × Addr × Heap × Nat) := ⟨(default, 0, default, 0)⟩
noncomputable def entP (q : Heap × Addr × Heap × Nat) : Prop := ent.1 q.1 q.2.1 q.2.2.1 q.2.2.2
@[irreducible] noncomputable def entC : Heap × Addr × Heap × Nat := worst entN entP
@[irreducible] noncomputable def gE : Heap := entC.1
@[irreducible] noncomputable def LE : Addr := entC.2.1
@[irreducible] noncomputable def hE : Heap := entC.2.2.1
@[irreducible] noncomputable def tkE : Nat := entC.2.2.2
theorem walk (hd : DatAll pool vs (qs.map pairD)) (hvs : vs.length ≤ 100) (hne : @Ne Nat l x ∧ @Ne Nat l dx ∧ @Ne Nat x dx) (hpl : ∀ p ∈ pool, p.1 ≠ l) (hnm : Plain (Txt.lower nm)) (hnl : (Txt.lower nm).length ≤ 10) (hnl2 : nm.length ≤ 10) (hql : ∀ q ∈ qs, q.1.length ≤ 10) : CtrTo w 102 [.ref x, .str nm t1] [] 3 40 ((l, W.listOf vs.toArray n) :: (x, instObj 182 dx) :: (dx, hDict w t l) :: pool) (Held w l x dx t pool (stayed nm qs))  epsC.2 (ent.1 gE LE hE tkE) := by
  (intro cxB cxF cxX cxN cxT cxk cxd cxu cxr); walk_at "mine cells1"
  k_steps
  refine grow_test (fun i ys add => add = [] ∧ DatAll pool ys ((stayed nm (qs.take i)).map pairD)) ?step ?fin ⟨rfl, DatAll.nil⟩
  case step =>
    rintro i ys add hi ⟨rfl, hys⟩ v I oI C oC D m₂ h9 tk9 E9 hP hC hx9 F9 N9 o1 o2
    obtain ⟨q, T, u1, u2, n9, hq, rfl, hm⟩ := pair_at hd (by simpa using hP)
    rw [List.nil_append] at N9 o1
    have hq1 := hql q (List.mem_of_getElem? hq)
    have N8 := News.more N9 (p := (T, _)) (List.mem_cons_of_mem _ (List.mem_cons_of_mem _ (List.mem_cons_of_mem _ (List.mem_cons_of_mem _ (List.mem_cons_of_mem _ (List.mem_cons_of_mem _ (List.mem_cons_of_mem _ hm)))))))
    k_steps
    · refine CompEnd.intro (by assumption) N8 _ (fun p hp => List.mem_cons_of_mem _ hp) o1 (Or.inr ⟨_, by k_mem, rfl, _, rfl⟩) ⟨[], rfl, rfl, ?_⟩
      rw [stay_yes hq (by assumption), List.map_append]
      exact hys.append (DatAll.one (DatIn.tuple (vs := [_, _]) hm (.cons (.str _ _) (.cons (.str _ _) .nil))))
    · refine CompEnd.intro (by assumption) N8 _ (fun p hp => List.mem_cons_of_mem _ hp) o1 (Or.inr ⟨_, by k_mem, rfl, _, rfl⟩) ⟨[], rfl, rfl, ?_⟩
      rw [stay_no hq (by assumption)]
      exact hys
  case fin =>
    rintro ys add ⟨rfl, hys⟩
    rw [List.size_toArray, show vs.length = qs.length from by rw [hd.length, List.length_map], List.take_length] at hys
    k_steps
    have hlen : ys.length ≤ 100 := by rw [hys.length, List.length_map]; refine Nat.le_trans (List.length_filter_le _ _) ?_; rw [hd.length, List.length_map] at hvs; exact hvs
    have o1 := (by assumption : Off1 _ _)
    have hDl : @Ne Nat l _ := o1.2.1
    refine set_all (by assumption) (by assumption) List.mem_cons_self (fun e => hDl e) (by simpa using hvs) hlen rfl (.tail ?ua (.tail ?ub (.head ?uc))) ?_
    case ua => exact fun e => hDl e.symm
    case ub => exact fun e => Nat.ne_of_lt (Nat.lt_succ_of_lt (by assumption : (@LT.lt Nat _ l _) ∧ _).1) e.symm
    case uc =>
      refine List.forall_mem_cons.mpr ⟨fun e => hne.1 e.symm, List.forall_mem_cons.mpr ⟨fun e => hne.2.1 e.symm, hpl⟩⟩
    intro h8 F8 N8
    k_steps
    exact ⟨rfl, ys, _, hys, hlen, fun p hp => List.mem_cons_of_mem _ (List.mem_cons_of_mem _ hp)⟩
theorem walk2 (hd : DatAll pool vs (qs.map pairD)) (hvs : vs.length ≤ 100) (hne : @Ne Nat l x ∧ @Ne Nat l dx ∧ @Ne Nat x dx) (hpl : ∀ p ∈ pool, p.1 ≠ l) (hnm : Plain (Txt.lower nm)) (hnl : (Txt.lower nm).length ≤ 10) (hnl2 : nm.length ≤ 10) (hql : ∀ q ∈ qs, q.1.length ≤ 10) : CtrTo w 102 [.ref x, .str nm t1] [] 3 40 ((l, W.listOf vs.toArray n) :: (x, instObj 182 dx) :: (dx, hDict w t l) :: pool) (Held w l x dx t pool (stayed nm qs))  epsC.2 (entP entC) := by with_unfolding_all exact walk hd hvs hne hpl hnm hnl hnl2 hql
theorem fin : epsP epsC := by
  with_unfolding_all exact fun hd hvs hne hpl hnm hnl hnl2 hql cxB cxF cxX cxN cxT cxk cxd cxu cxr => ent.2 hd hvs hne hpl hnm hnl hnl2 hql ⟨fun x0 x1 x2 x3 => of_worst (P := entP) (h := entN) (by with_unfolding_all exact walk2 hd hvs hne hpl hnm hnl hnl2 hql cxB cxF cxX cxN cxT cxk cxd cxu cxr) (x0, x1, x2, x3)⟩ cxB cxF cxX cxN cxT cxk cxd cxu cxr
end E_del_spec
theorem del_spec (w : World) (x dx l : Addr) (t t1 : Tok) (vs : List Value) (n : Nat) (nm : Str) (qs : List (Str × Str)) (pool : Led) (hd : DatAll pool vs (qs.map pairD)) (hvs : vs.length ≤ 100) (hne : @Ne Nat l x ∧ @Ne Nat l dx ∧ @Ne Nat x dx) (hpl : ∀ p ∈ pool, p.1 ≠ l) (hnm : Plain (Txt.lower nm)) (hnl : (Txt.lower nm).length ≤ 10) (hnl2 : nm.length ≤ 10) (hql : ∀ q ∈ qs, q.1.length ≤ 10) : Ctr w 102 [.ref x, .str nm t1] [] 3 40 ((l, W.listOf vs.toArray n) :: (x, instObj 182 dx) :: (dx, hDict w t l) :: pool) (Held w l x dx t pool (stayed nm qs)) := ctr_of fun c9 => of_worst (P := E_del_spec.epsP) (h := E_del_spec.epsN) (by with_unfolding_all exact E_del_spec.fin) ((w, x, dx, l, t, t1, vs, n, nm, qs, pool), c9) hd hvs hne hpl hnm hnl hnl2 hql
end
end
end
end
end
theorem sweepP6a {M : Model} {A : Around} {env : Env} {Q : Flow → Shared → Prop} {E : Value → Shared → Prop} {s : Shared} (h : wpAny M A (execs [] env) Q E s) : wpAny M A (execs [] env) Q E s := by w_top off; first | (walk1; fail "swept") | exact h
section
local macro_rules | `(tactic| k_all) => `(tactic| k_extra "mk2")
theorem sweepP6 {M : Model} {A : Around} {env : Env} {Q : Flow → Shared → Prop} {E : Value → Shared → Prop} {s : Shared} (h : wpAny M A (execs [] env) Q E s) : wpAny M A (execs [] env) Q E s := by w_top off; first | (walk1; fail "swept") | exact h
section
theorem kyStr (k : Str) : kyVal (PyData.str k) = fun t => Value.str k t := rfl
instance (c : Nat) : Decidable (okc c) := by unfold okc; infer_instance
instance (x : Str) : Decidable (Plain x) := by unfold Plain; infer_instance
local macro_rules | `(tactic| walk_at "call ref") => `(tactic| k_extra "mv9")
local macro_rules | `(tactic| walk_at "call ref") => `(tactic| k_extra "mv10")
local macro_rules | `(tactic| walk_at "call ref") => `(tactic| k_extra "mv15")
local macro_rules | `(tactic| walk_at "exec For Tuple Call cons nil") => `(tactic| k_extra "mv16")
theorem at_len : (Str.ofString "at").length = 2 := by decide +kernel
theorem rep_len : (Txt.replace (Str.ofString "by_hand") (Str.ofString "_") (Str.ofString "-")).length = 7 := by decide +kernel
theorem xy_len : (Str.ofString "x y").length = 3 := by decide +kernel
theorem sep_len : (Str.ofString "; ").length = 2 := by decide +kernel
local macro_rules | `(tactic| walk_at "call builtin:str.join") => `(tactic| k_extra "mv17")
/-- what add_header leaves: one more pair in the list -/
noncomputable def addedLed (w : World) (l x dx : Addr) (t : Tok) (vs : List Value) (nm line : Str) (rest : Led) (T : Addr) (n' : Nat) (t1 t2 : Tok) : Led :=
  (l, W.listOf (vs ++ [Value.ref T]).toArray n') :: (x, instObj 182 dx) :: (dx, hDict w t l) :: (T, ({ cls := .type "tuple", data := .seq [Value.str nm t1, Value.str line t2].toArray } : Obj)) :: rest
noncomputable def Added (w : World) (l x dx : Addr) (t : Tok) (vs : List Value) (nm line : Str) (rest news' : Led) (v : Value) : Prop :=
  v = .none ∧ ∃ (T : Addr) (n' : Nat) (t1 t2 : Tok), ∀ p ∈ addedLed w l x dx t vs nm line rest T n' t1 t2, p ∈ news'
theorem Added.of {w : World} {l x dx T : Addr} {t t1 t2 : Tok} {vs : List Value} {nm line line' : Str} {rest news' : Led} {n : Nat} {v : Value} (hv : v = .none) (e : line' = line)
    (h1 : (T, ({ cls := .type "tuple", data := .seq #[.str nm t1, .str line' t2] } : Obj)) ∈ news') (h2 : (l, W.listOf (vs.toArray.push (.ref T)) n) ∈ news') (h3 : (x, instObj 182 dx) ∈ news') (h4 : (dx, hDict w t l) ∈ news') (h5 : ∀ p ∈ rest, p ∈ news') : Added w l x dx t vs nm line rest news' v := by
  subst e
  refine ⟨hv, T, n, t1, t2, ?_⟩
  rw [List.push_toArray] at h2
  unfold addedLed
  refine List.forall_mem_cons.mpr ⟨h2, List.forall_mem_cons.mpr ⟨h3, List.forall_mem_cons.mpr ⟨h4, List.forall_mem_cons.mpr ⟨h1, h5⟩⟩⟩⟩
noncomputable def line0 (val : Str) : Str := Txt.join (Str.ofString "; ") [val]
noncomputable def line1 (val hr : Str) : Str := Txt.join (Str.ofString "; ") [val, fmtStr (Str.ofString "at") hr]
noncomputable def line2 (val hr : Str) : Str := Txt.join (Str.ofString "; ") [val, fmtStr (Str.ofString "at") hr, fmtStr (Txt.replace (Str.ofString "by_hand") (Str.ofString "_") (Str.ofString "-")) (Str.ofString "x y")]
local macro_rules | `(tactic| walk_at "call builtin:str.replace") => `(tactic| k_extra "mv18")
namespace E_add1_spec
noncomputable def epsP (q : (World × Addr × Addr × Addr × Tok × (List Value) × Nat × Str × Str × Str × Tok × Tok × Tok × Tok × Led) × Cx) : Prop := (fun (w : World) (x : Addr) (dx : Addr) (l : Addr) (t : Tok) (vs : List Value) (n : Nat) (nm : Str) (val : Str) (hr : Str) (t1 : Tok) (t2 : Tok) (t3 : Tok) (t4 : Tok) (rest : Led) (cx9 : Cx) => ∀ (hvs : vs.length ≤ 100) (hl : ∀ p ∈ rest, p.1 ≠ l) (hne : @Ne Nat l x ∧ @Ne Nat l dx ∧ @Ne Nat x dx) (hn1 : Plain nm) (hn2 : nm.length ≤ 10) (hv1 : Plain val) (hv2 : val.length ≤ 100) (hr1 : Plain hr) (hr2 : hr.length = 2) (hr3 : Builtin.Str.occurrences hr (Str.ofString "\\") 0 hr.length (hr.length + 1) = []) (hr4 : Builtin.Str.occurrences hr (Str.ofString "\"") 0 hr.length (hr.length + 1) = []), CtrLAt w 179 [.ref x, .str nm t1, .str val t2] [(Str.ofString "at", .str hr t3)] 4 40 ((l, listOf vs.toArray n) :: (x, instObj 182 dx) :: (dx, hDict w t l) :: rest) (Added w l x dx t vs nm (line1 val hr) rest)  cx9) q.1.1 q.1.2.1 q.1.2.2.1 q.1.2.2.2.1 q.1.2.2.2.2.1 q.1.2.2.2.2.2.1 q.1.2.2.2.2.2.2.1 q.1.2.2.2.2.2.2.2.1 q.1.2.2.2.2.2.2.2.2.1 q.1.2.2.2.2.2.2.2.2.2.1 q.1.2.2.2.2.2.2.2.2.2.2.1 q.1.2.2.2.2.2.2.2.2.2.2.2.1 q.1.2.2.2.2.2.2.2.2.2.2.2.2.1 q.1.2.2.2.2.2.2.2.2.2.2.2.2.2.1 q.1.2.2.2.2.2.2.2.2.2.2.2.2.2.2 q.2
theorem epsN : Nonempty ((World × Addr × Addr × Addr × Tok × (List Value) × Nat × Str × Str × Str × Tok × Tok × Tok × Tok × Led) × Cx) := ⟨((Classical.choice neWorld, default, default, default, default, default, default, default, default, default, default, default, default, default, default), Classical.choice neCx)⟩
@[irreducible] noncomputable def epsC : (World × Addr × Addr × Addr × Tok × (List Value) × Nat × Str × Str × Str × Tok × Tok × Tok × Tok × Led) × Cx := worst epsN epsP
@[irreducible] noncomputable def w : World := epsC.1.1
@[irreducible] noncomputable def x : Addr := epsC.1.2.1
@[irreducible] noncomputable def dx : Addr := epsC.1.2.2.1
@[irreducible] noncomputable def l : Addr := epsC.1.2.2.2.1
@[irreducible] noncomputable def t : Tok := epsC.1.2.2.2.2.1
@[irreducible] noncomputable def vs : List Value := epsC.1.2.2.2.2.2.1
@[irreducible] noncomputable def n : Nat := epsC.1.2.2.2.2.2.2.1
@[irreducible] noncomputable def nm : Str := epsC.1.2.2.2.2.2.2.2.1
@[irreducible] noncomputable def val : Str := epsC.1.2.2.2.2.2.2.2.2.1
@[irreducible] noncomputable def hr : Str := epsC.1.2.2.2.2.2.2.2.2.2.1
@[irreducible] noncomputable def t1 : Tok := epsC.1.2.2.2.2.2.2.2.2.2.2.1
@[irreducible] noncomputable def t2 : Tok := epsC.1.2.2.2.2.2.2.2.2.2.2.2.1
@[irreducible] noncomputable def t3 : Tok := epsC.1.2.2.2.2.2.2.2.2.2.2.2.2.1
@[irreducible] noncomputable def t4 : Tok := epsC.1.2.2.2.2.2.2.2.2.2.2.2.2.2.1
@[irreducible] noncomputable def rest : Led := epsC.1.2.2.2.2.2.2.2.2.2.2.2.2.2.2
noncomputable def ent : (TT9 : Heap → Addr → Heap → Nat → Addr → Obj → Prop) ×' (∀ (hvs : vs.length ≤ 100) (hl : ∀ p ∈ rest, p.1 ≠ l) (hne : @Ne Nat l x ∧ @Ne Nat l dx ∧ @Ne Nat x dx) (hn1 : Plain nm) (hn2 : nm.length ≤ 10) (hv1 : Plain val) (hv2 : val.length ≤ 100) (hr1 : Plain hr) (hr2 : hr.length = 2) (hr3 : Builtin.Str.occurrences hr (Str.ofString "\\") 0 hr.length (hr.length + 1) = []) (hr4 : Builtin.Str.occurrences hr (Str.ofString "\"") 0 hr.length (hr.length + 1) = []), Hid (∀ x0 x1 x2 x3 y0 y1, TT9 x0 x1 x2 x3 y0 y1) → CtrLAt w 179 [.ref x, .str nm t1, .str val t2] [(Str.ofString "at", .str hr t3)] 4 40 ((l, listOf vs.toArray n) :: (x, instObj 182 dx) :: (dx, hDict w t l) :: rest) (Added w l x dx t vs nm (line1 val hr) rest)  epsC.2) :=
  ⟨_, fun hvs hl hne hn1 hn2 hv1 hv2 hr1 hr2 hr3 hr4 H => by
    intro cxB cxF cxX cxN cxT cxk cxd cxu cxr
    ((refine wpAny_call ?_; k_dflt (refine' kp_more ?z8k1 ?z8k2 ?z8k3 ?z8k4 ?z8k5 ?z8kA ?z8kF ?z8kK ?z8k6 ?z8k7 ?z8k8 ?z8kX ?z8kM ?z8kN ?z8kD ?z8kR ?z8kP ?z8kT ?z8kB ?_ ?z8c2 ?z8c3 ?z8c4 ?z8c5; (case z8kA => exact rfl); (case z8kF => exact rfl); (case z8kK => assumption); (case z8k1 => k_asm); (case z8k2 => k_asm); (case z8k3 => k_asm); (case z8k4 => k_asm); (case z8k5 => k_asm); (case z8k6 => k_is); (case z8k7 => k_is); (case z8k8 => ktr_room); (case z8kX => kp_lit); (case z8kM => exact rfl); (case z8kN => exact rfl); (case z8kD => kp_flats); (case z8kR => exact rfl); (case z8kP => exact rfl); (case z8kT => exact fun _ => rfl); (case z8kB => exact fun _ => locs rfl); (case z8c5 => decide); (case z8c2 => exact rfl); (case z8c3 => exact rfl); (case z8c4 => exact rfl); k_whole)))
    exact fun y0 y1 x0 x1 x2 x3 => H.out x0 x1 x2 x3 y0 y1⟩
theorem entN : Nonempty (Heap × Addr × Heap × Nat) := ⟨(default, 0, default, 0)⟩
noncomputable def entP (q : Heap × Addr × Heap × Nat) : Prop := ∀ y0 y1, ent.1 q.1 q.2.1 q.2.2.1 q.2.2.2 y0 y1
@[irreducible] noncomputable def entC : Heap × Addr × Heap × Nat := worst entN entP
@[irreducible] noncomputable def gE : Heap := entC.1
@[irreducible] noncomputable def LE : Addr := entC.2.1
@[irreducible] noncomputable def hE : Heap := entC.2.2.1
@[irreducible] noncomputable def tkE : Nat := entC.2.2.2
theorem walk (hvs : vs.length ≤ 100) (hl : ∀ p ∈ rest, p.1 ≠ l) (hne : @Ne Nat l x ∧ @Ne Nat l dx ∧ @Ne Nat x dx) (hn1 : Plain nm) (hn2 : nm.length ≤ 10) (hv1 : Plain val) (hv2 : val.length ≤ 100) (hr1 : Plain hr) (hr2 : hr.length = 2) (hr3 : Builtin.Str.occurrences hr (Str.ofString "\\") 0 hr.length (hr.length + 1) = []) (hr4 : Builtin.Str.occurrences hr (Str.ofString "\"") 0 hr.length (hr.length + 1) = []) : CtrLTo w 179 [.ref x, .str nm t1, .str val t2] [(Str.ofString "at", .str hr t3)] 4 40 ((l, listOf vs.toArray n) :: (x, instObj 182 dx) :: (dx, hDict w t l) :: rest) (Added w l x dx t vs nm (line1 val hr) rest)  epsC.2 (∀ y0 y1, ent.1 gE LE hE tkE y0 y1) := by
  (intro cxB cxF cxX cxN cxT cxk cxd cxu cxr _ _); walk_at "mine more1"
  k_steps
  (exact Added.of rfl rfl (by k_mem) (by k_mem) (by k_mem) (by k_mem) (fun p hp => by simp only [List.mem_cons, hp, or_true]))
theorem walk2 (hvs : vs.length ≤ 100) (hl : ∀ p ∈ rest, p.1 ≠ l) (hne : @Ne Nat l x ∧ @Ne Nat l dx ∧ @Ne Nat x dx) (hn1 : Plain nm) (hn2 : nm.length ≤ 10) (hv1 : Plain val) (hv2 : val.length ≤ 100) (hr1 : Plain hr) (hr2 : hr.length = 2) (hr3 : Builtin.Str.occurrences hr (Str.ofString "\\") 0 hr.length (hr.length + 1) = []) (hr4 : Builtin.Str.occurrences hr (Str.ofString "\"") 0 hr.length (hr.length + 1) = []) : CtrLTo w 179 [.ref x, .str nm t1, .str val t2] [(Str.ofString "at", .str hr t3)] 4 40 ((l, listOf vs.toArray n) :: (x, instObj 182 dx) :: (dx, hDict w t l) :: rest) (Added w l x dx t vs nm (line1 val hr) rest)  epsC.2 (entP entC) := by with_unfolding_all exact walk hvs hl hne hn1 hn2 hv1 hv2 hr1 hr2 hr3 hr4
theorem fin : epsP epsC := by
  with_unfolding_all exact fun hvs hl hne hn1 hn2 hv1 hv2 hr1 hr2 hr3 hr4 cxB cxF cxX cxN cxT cxk cxd cxu cxr => ent.2 hvs hl hne hn1 hn2 hv1 hv2 hr1 hr2 hr3 hr4 ⟨fun x0 x1 x2 x3 y0 y1 => of_worst (P := entP) (h := entN) (by with_unfolding_all exact walk2 hvs hl hne hn1 hn2 hv1 hv2 hr1 hr2 hr3 hr4 cxB cxF cxX cxN cxT cxk cxd cxu cxr) (x0, x1, x2, x3) y0 y1⟩ cxB cxF cxX cxN cxT cxk cxd cxu cxr
end E_add1_spec
theorem add1_spec (w : World) (x dx l : Addr) (t : Tok) (vs : List Value) (n : Nat) (nm val hr : Str) (t1 t2 t3 t4 : Tok) (hvs : vs.length ≤ 100) (rest : Led) (hl : ∀ p ∈ rest, p.1 ≠ l) (hne : @Ne Nat l x ∧ @Ne Nat l dx ∧ @Ne Nat x dx) (hn1 : Plain nm) (hn2 : nm.length ≤ 10) (hv1 : Plain val) (hv2 : val.length ≤ 100) (hr1 : Plain hr) (hr2 : hr.length = 2) (hr3 : Builtin.Str.occurrences hr (Str.ofString "\\") 0 hr.length (hr.length + 1) = []) (hr4 : Builtin.Str.occurrences hr (Str.ofString "\"") 0 hr.length (hr.length + 1) = []) : CtrL w 179 [.ref x, .str nm t1, .str val t2] [(Str.ofString "at", .str hr t3)] 4 40 ((l, listOf vs.toArray n) :: (x, instObj 182 dx) :: (dx, hDict w t l) :: rest) (Added w l x dx t vs nm (line1 val hr) rest) := ctrL_of fun c9 => of_worst (P := E_add1_spec.epsP) (h := E_add1_spec.epsN) (by with_unfolding_all exact E_add1_spec.fin) ((w, x, dx, l, t, vs, n, nm, val, hr, t1, t2, t3, t4, rest), c9) hvs hl hne hn1 hn2 hv1 hv2 hr1 hr2 hr3 hr4
namespace E_add2_spec
noncomputable def epsP (q : (World × Addr × Addr × Addr × Tok × (List Value) × Nat × Str × Str × Str × Tok × Tok × Tok × Tok × Led) × Cx) : Prop := (fun (w : World) (x : Addr) (dx : Addr) (l : Addr) (t : Tok) (vs : List Value) (n : Nat) (nm : Str) (val : Str) (hr : Str) (t1 : Tok) (t2 : Tok) (t3 : Tok) (t4 : Tok) (rest : Led) (cx9 : Cx) => ∀ (hvs : vs.length ≤ 100) (hl : ∀ p ∈ rest, p.1 ≠ l) (hne : @Ne Nat l x ∧ @Ne Nat l dx ∧ @Ne Nat x dx) (hn1 : Plain nm) (hn2 : nm.length ≤ 10) (hv1 : Plain val) (hv2 : val.length ≤ 100) (hr1 : Plain hr) (hr2 : hr.length = 2) (hr3 : Builtin.Str.occurrences hr (Str.ofString "\\") 0 hr.length (hr.length + 1) = []) (hr4 : Builtin.Str.occurrences hr (Str.ofString "\"") 0 hr.length (hr.length + 1) = []), CtrLAt w 179 [.ref x, .str nm t1, .str val t2] [(Str.ofString "at", .str hr t3), (Str.ofString "by_hand", .str (Str.ofString "x y") t4)] 4 40 ((l, listOf vs.toArray n) :: (x, instObj 182 dx) :: (dx, hDict w t l) :: rest) (Added w l x dx t vs nm (line2 val hr) rest)  cx9) q.1.1 q.1.2.1 q.1.2.2.1 q.1.2.2.2.1 q.1.2.2.2.2.1 q.1.2.2.2.2.2.1 q.1.2.2.2.2.2.2.1 q.1.2.2.2.2.2.2.2.1 q.1.2.2.2.2.2.2.2.2.1 q.1.2.2.2.2.2.2.2.2.2.1 q.1.2.2.2.2.2.2.2.2.2.2.1 q.1.2.2.2.2.2.2.2.2.2.2.2.1 q.1.2.2.2.2.2.2.2.2.2.2.2.2.1 q.1.2.2.2.2.2.2.2.2.2.2.2.2.2.1 q.1.2.2.2.2.2.2.2.2.2.2.2.2.2.2 q.2
theorem epsN : Nonempty ((World × Addr × Addr × Addr × Tok × (List Value) × Nat × Str × Str × Str × Tok × Tok × Tok × Tok × Led) × Cx) := ⟨((Classical.choice neWorld, default, default, default, default, default, default, default, default, default, default, default, default, default, default), Classical.choice neCx)⟩
@[irreducible] noncomputable def epsC : (World × Addr × Addr × Addr × Tok × (List Value) × Nat × Str × Str × Str × Tok × Tok × Tok × Tok × Led) × Cx := worst epsN epsP
@[irreducible] noncomputable def w : World := epsC.1.1
@[irreducible] noncomputable def x : Addr := epsC.1.2.1
@[irreducible] noncomputable def dx : Addr := epsC.1.2.2.1
@[irreducible] noncomputable def l : Addr := epsC.1.2.2.2.1
@[irreducible] noncomputable def t : Tok := epsC.1.2.2.2.2.1
@[irreducible] noncomputable def vs : List Value := epsC.1.2.2.2.2.2.1
@[irreducible] noncomputable def n : Nat := epsC.1.2.2.2.2.2.2.1
@[irreducible] noncomputable def nm : Str := epsC.1.2.2.2.2.2.2.2.1
@[irreducible] noncomputable def val : Str := epsC.1.2.2.2.2.2.2.2.2.1
@[irreducible] noncomputable def hr : Str := epsC.1.2.2.2.2.2.2.2.2.2.1
@[irreducible] noncomputable def t1 : Tok := epsC.1.2.2.2.2.2.2.2.2.2.2.1
@[irreducible] noncomputable def t2 : Tok := epsC.1.2.2.2.2.2.2.2.2.2.2.2.1
@[irreducible] noncomputable def t3 : Tok := epsC.1.2.2.2.2.2.2.2.2.2.2.2.2.1
@[irreducible] noncomputable def t4 : Tok := epsC.1.2.2.2.2.2.2.2.2.2.2.2.2.2.1
@[irreducible] noncomputable def rest : Led := epsC.1.2.2.2.2.2.2.2.2.2.2.2.2.2.2
noncomputable def ent : (TT9 : Heap → Addr → Heap → Nat → Addr → Obj → Prop) ×' (∀ (hvs : vs.length ≤ 100) (hl : ∀ p ∈ rest, p.1 ≠ l) (hne : @Ne Nat l x ∧ @Ne Nat l dx ∧ @Ne Nat x dx) (hn1 : Plain nm) (hn2 : nm.length ≤ 10) (hv1 : Plain val) (hv2 : val.length ≤ 100) (hr1 : Plain hr) (hr2 : hr.length = 2) (hr3 : Builtin.Str.occurrences hr (Str.ofString "\\") 0 hr.length (hr.length + 1) = []) (hr4 : Builtin.Str.occurrences hr (Str.ofString "\"") 0 hr.length (hr.length + 1) = []), Hid (∀ x0 x1 x2 x3 y0 y1, TT9 x0 x1 x2 x3 y0 y1) → CtrLAt w 179 [.ref x, .str nm t1, .str val t2] [(Str.ofString "at", .str hr t3), (Str.ofString "by_hand", .str (Str.ofString "x y") t4)] 4 40 ((l, listOf vs.toArray n) :: (x, instObj 182 dx) :: (dx, hDict w t l) :: rest) (Added w l x dx t vs nm (line2 val hr) rest)  epsC.2) :=
  ⟨_, fun hvs hl hne hn1 hn2 hv1 hv2 hr1 hr2 hr3 hr4 H => by
    intro cxB cxF cxX cxN cxT cxk cxd cxu cxr
    ((refine wpAny_call ?_; k_dflt (refine' kp_more ?z10k1 ?z10k2 ?z10k3 ?z10k4 ?z10k5 ?z10kA ?z10kF ?z10kK ?z10k6 ?z10k7 ?z10k8 ?z10kX ?z10kM ?z10kN ?z10kD ?z10kR ?z10kP ?z10kT ?z10kB ?_ ?z10c2 ?z10c3 ?z10c4 ?z10c5; (case z10kA => exact rfl); (case z10kF => exact rfl); (case z10kK => assumption); (case z10k1 => k_asm); (case z10k2 => k_asm); (case z10k3 => k_asm); (case z10k4 => k_asm); (case z10k5 => k_asm); (case z10k6 => k_is); (case z10k7 => k_is); (case z10k8 => ktr_room); (case z10kX => kp_lit); (case z10kM => exact rfl); (case z10kN => exact rfl); (case z10kD => kp_flats); (case z10kR => exact rfl); (case z10kP => exact rfl); (case z10kT => exact fun _ => rfl); (case z10kB => exact fun _ => locs rfl); (case z10c5 => decide); (case z10c2 => exact rfl); (case z10c3 => exact rfl); (case z10c4 => exact rfl); k_whole)))
    exact fun y0 y1 x0 x1 x2 x3 => H.out x0 x1 x2 x3 y0 y1⟩
theorem entN : Nonempty (Heap × Addr × Heap × Nat) := ⟨(default, 0, default, 0)⟩
noncomputable def entP (q : Heap × Addr × Heap × Nat) : Prop := ∀ y0 y1, ent.1 q.1 q.2.1 q.2.2.1 q.2.2.2 y0 y1
@[irreducible] noncomputable def entC : Heap × Addr × Heap × Nat := worst entN entP
@[irreducible] noncomputable def gE : Heap := entC.1
@[irreducible] noncomputable def LE : Addr := entC.2.1
@[irreducible] noncomputable def hE : Heap := entC.2.2.1
@[irreducible] noncomputable def tkE : Nat := entC.2.2.2
theorem walk (hvs : vs.length ≤ 100) (hl : ∀ p ∈ rest, p.1 ≠ l) (hne : @Ne Nat l x ∧ @Ne Nat l dx ∧ @Ne Nat x dx) (hn1 : Plain nm) (hn2 : nm.length ≤ 10) (hv1 : Plain val) (hv2 : val.length ≤ 100) (hr1 : Plain hr) (hr2 : hr.length = 2) (hr3 : Builtin.Str.occurrences hr (Str.ofString "\\") 0 hr.length (hr.length + 1) = []) (hr4 : Builtin.Str.occurrences hr (Str.ofString "\"") 0 hr.length (hr.length + 1) = []) : CtrLTo w 179 [.ref x, .str nm t1, .str val t2] [(Str.ofString "at", .str hr t3), (Str.ofString "by_hand", .str (Str.ofString "x y") t4)] 4 40 ((l, listOf vs.toArray n) :: (x, instObj 182 dx) :: (dx, hDict w t l) :: rest) (Added w l x dx t vs nm (line2 val hr) rest)  epsC.2 (∀ y0 y1, ent.1 gE LE hE tkE y0 y1) := by
  (intro cxB cxF cxX cxN cxT cxk cxd cxu cxr _ _); walk_at "mine more1"
  k_steps
  k_dflt (refine' unr_end1 ?k1 ?k2 ?k3 ?k4)
  case k1 => k_asm
  case k2 => k_asm
  case k3 => k_all
  refine ⟨?a1, ?a2⟩
  case a1 => first | exact ⟨by k_mem, trivial⟩ | exact trivial
  k_steps
  (exact Added.of rfl rfl (by k_mem) (by k_mem) (by k_mem) (by k_mem) (fun p hp => by simp only [List.mem_cons, hp, or_true]))
theorem walk2 (hvs : vs.length ≤ 100) (hl : ∀ p ∈ rest, p.1 ≠ l) (hne : @Ne Nat l x ∧ @Ne Nat l dx ∧ @Ne Nat x dx) (hn1 : Plain nm) (hn2 : nm.length ≤ 10) (hv1 : Plain val) (hv2 : val.length ≤ 100) (hr1 : Plain hr) (hr2 : hr.length = 2) (hr3 : Builtin.Str.occurrences hr (Str.ofString "\\") 0 hr.length (hr.length + 1) = []) (hr4 : Builtin.Str.occurrences hr (Str.ofString "\"") 0 hr.length (hr.length + 1) = []) : CtrLTo w 179 [.ref x, .str nm t1, .str val t2] [(Str.ofString "at", .str hr t3), (Str.ofString "by_hand", .str (Str.ofString "x y") t4)] 4 40 ((l, listOf vs.toArray n) :: (x, instObj 182 dx) :: (dx, hDict w t l) :: rest) (Added w l x dx t vs nm (line2 val hr) rest)  epsC.2 (entP entC) := by with_unfolding_all exact walk hvs hl hne hn1 hn2 hv1 hv2 hr1 hr2 hr3 hr4
theorem fin : epsP epsC := by
  with_unfolding_all exact fun hvs hl hne hn1 hn2 hv1 hv2 hr1 hr2 hr3 hr4 cxB cxF cxX cxN cxT cxk cxd cxu cxr => ent.2 hvs hl hne hn1 hn2 hv1 hv2 hr1 hr2 hr3 hr4 ⟨fun x0 x1 x2 x3 y0 y1 => of_worst (P := entP) (h := entN) (by with_unfolding_all exact walk2 hvs hl hne hn1 hn2 hv1 hv2 hr1 hr2 hr3 hr4 cxB cxF cxX cxN cxT cxk cxd cxu cxr) (x0, x1, x2, x3) y0 y1⟩ cxB cxF cxX cxN cxT cxk cxd cxu cxr
end E_add2_spec
theorem add2_spec (w : World) (x dx l : Addr) (t : Tok) (vs : List Value) (n : Nat) (nm val hr : Str) (t1 t2 t3 t4 : Tok) (hvs : vs.length ≤ 100) (rest : Led) (hl : ∀ p ∈ rest, p.1 ≠ l) (hne : @Ne Nat l x ∧ @Ne Nat l dx ∧ @Ne Nat x dx) (hn1 : Plain nm) (hn2 : nm.length ≤ 10) (hv1 : Plain val) (hv2 : val.length ≤ 100) (hr1 : Plain hr) (hr2 : hr.length = 2) (hr3 : Builtin.Str.occurrences hr (Str.ofString "\\") 0 hr.length (hr.length + 1) = []) (hr4 : Builtin.Str.occurrences hr (Str.ofString "\"") 0 hr.length (hr.length + 1) = []) : CtrL w 179 [.ref x, .str nm t1, .str val t2] [(Str.ofString "at", .str hr t3), (Str.ofString "by_hand", .str (Str.ofString "x y") t4)] 4 40 ((l, listOf vs.toArray n) :: (x, instObj 182 dx) :: (dx, hDict w t l) :: rest) (Added w l x dx t vs nm (line2 val hr) rest) := ctrL_of fun c9 => of_worst (P := E_add2_spec.epsP) (h := E_add2_spec.epsN) (by with_unfolding_all exact E_add2_spec.fin) ((w, x, dx, l, t, vs, n, nm, val, hr, t1, t2, t3, t4, rest), c9) hvs hl hne hn1 hn2 hv1 hv2 hr1 hr2 hr3 hr4
namespace E_add0_spec
noncomputable def epsP (q : (World × Addr × Addr × Addr × Tok × (List Value) × Nat × Str × Str × Str × Tok × Tok × Tok × Tok × Led) × Cx) : Prop := (fun (w : World) (x : Addr) (dx : Addr) (l : Addr) (t : Tok) (vs : List Value) (n : Nat) (nm : Str) (val : Str) (hr : Str) (t1 : Tok) (t2 : Tok) (t3 : Tok) (t4 : Tok) (rest : Led) (cx9 : Cx) => ∀ (hvs : vs.length ≤ 100) (hl : ∀ p ∈ rest, p.1 ≠ l) (hne : @Ne Nat l x ∧ @Ne Nat l dx ∧ @Ne Nat x dx) (hn1 : Plain nm) (hn2 : nm.length ≤ 10) (hv1 : Plain val) (hv2 : val.length ≤ 100), CtrLAt w 179 [.ref x, .str nm t1, .str val t2] [] 4 40 ((l, listOf vs.toArray n) :: (x, instObj 182 dx) :: (dx, hDict w t l) :: rest) (Added w l x dx t vs nm (line0 val) rest)  cx9) q.1.1 q.1.2.1 q.1.2.2.1 q.1.2.2.2.1 q.1.2.2.2.2.1 q.1.2.2.2.2.2.1 q.1.2.2.2.2.2.2.1 q.1.2.2.2.2.2.2.2.1 q.1.2.2.2.2.2.2.2.2.1 q.1.2.2.2.2.2.2.2.2.2.1 q.1.2.2.2.2.2.2.2.2.2.2.1 q.1.2.2.2.2.2.2.2.2.2.2.2.1 q.1.2.2.2.2.2.2.2.2.2.2.2.2.1 q.1.2.2.2.2.2.2.2.2.2.2.2.2.2.1 q.1.2.2.2.2.2.2.2.2.2.2.2.2.2.2 q.2
theorem epsN : Nonempty ((World × Addr × Addr × Addr × Tok × (List Value) × Nat × Str × Str × Str × Tok × Tok × Tok × Tok × Led) × Cx) := ⟨((Classical.choice neWorld, default, default, default, default, default, default, default, default, default, default, default, default, default, default), Classical.choice neCx)⟩
@[irreducible] noncomputable def epsC : (World × Addr × Addr × Addr × Tok × (List Value) × Nat × Str × Str × Str × Tok × Tok × Tok × Tok × Led) × Cx := worst epsN epsP
@[irreducible] noncomputable def w : World := epsC.1.1
@[irreducible] noncomputable def x : Addr := epsC.1.2.1
@[irreducible] noncomputable def dx : Addr := epsC.1.2.2.1
@[irreducible] noncomputable def l : Addr := epsC.1.2.2.2.1
@[irreducible] noncomputable def t : Tok := epsC.1.2.2.2.2.1
@[irreducible] noncomputable def vs : List Value := epsC.1.2.2.2.2.2.1
@[irreducible] noncomputable def n : Nat := epsC.1.2.2.2.2.2.2.1
@[irreducible] noncomputable def nm : Str := epsC.1.2.2.2.2.2.2.2.1
@[irreducible] noncomputable def val : Str := epsC.1.2.2.2.2.2.2.2.2.1
@[irreducible] noncomputable def hr : Str := epsC.1.2.2.2.2.2.2.2.2.2.1
@[irreducible] noncomputable def t1 : Tok := epsC.1.2.2.2.2.2.2.2.2.2.2.1
@[irreducible] noncomputable def t2 : Tok := epsC.1.2.2.2.2.2.2.2.2.2.2.2.1
@[irreducible] noncomputable def t3 : Tok := epsC.1.2.2.2.2.2.2.2.2.2.2.2.2.1
@[irreducible] noncomputable def t4 : Tok := epsC.1.2.2.2.2.2.2.2.2.2.2.2.2.2.1
@[irreducible] noncomputable def rest : Led := epsC.1.2.2.2.2.2.2.2.2.2.2.2.2.2.2
noncomputable def ent : (TT9 : Heap → Addr → Heap → Nat → Addr → Obj → Prop) ×' (∀ (hvs : vs.length ≤ 100) (hl : ∀ p ∈ rest, p.1 ≠ l) (hne : @Ne Nat l x ∧ @Ne Nat l dx ∧ @Ne Nat x dx) (hn1 : Plain nm) (hn2 : nm.length ≤ 10) (hv1 : Plain val) (hv2 : val.length ≤ 100), Hid (∀ x0 x1 x2 x3 y0 y1, TT9 x0 x1 x2 x3 y0 y1) → CtrLAt w 179 [.ref x, .str nm t1, .str val t2] [] 4 40 ((l, listOf vs.toArray n) :: (x, instObj 182 dx) :: (dx, hDict w t l) :: rest) (Added w l x dx t vs nm (line0 val) rest)  epsC.2) :=
  ⟨_, fun hvs hl hne hn1 hn2 hv1 hv2 H => by
    intro cxB cxF cxX cxN cxT cxk cxd cxu cxr
    ((refine wpAny_call ?_; k_dflt (refine' kp_more ?z12k1 ?z12k2 ?z12k3 ?z12k4 ?z12k5 ?z12kA ?z12kF ?z12kK ?z12k6 ?z12k7 ?z12k8 ?z12kX ?z12kM ?z12kN ?z12kD ?z12kR ?z12kP ?z12kT ?z12kB ?_ ?z12c2 ?z12c3 ?z12c4 ?z12c5; (case z12kA => exact rfl); (case z12kF => exact rfl); (case z12kK => assumption); (case z12k1 => k_asm); (case z12k2 => k_asm); (case z12k3 => k_asm); (case z12k4 => k_asm); (case z12k5 => k_asm); (case z12k6 => k_is); (case z12k7 => k_is); (case z12k8 => ktr_room); (case z12kX => kp_lit); (case z12kM => exact rfl); (case z12kN => exact rfl); (case z12kD => kp_flats); (case z12kR => exact rfl); (case z12kP => exact rfl); (case z12kT => exact fun _ => rfl); (case z12kB => exact fun _ => locs rfl); (case z12c5 => decide); (case z12c2 => exact rfl); (case z12c3 => exact rfl); (case z12c4 => exact rfl); k_whole)))
    exact fun y0 y1 x0 x1 x2 x3 => H.out x0 x1 x2 x3 y0 y1⟩
theorem entN : Nonempty (Heap × Addr × Heap × Nat) := ⟨(default, 0, default, 0)⟩
noncomputable def entP (q : Heap × Addr × Heap × Nat) : Prop := ∀ y0 y1, ent.1 q.1 q.2.1 q.2.2.1 q.2.2.2 y0 y1
@[irreducible] noncomputable def entC : Heap × Addr × Heap × Nat := worst entN entP
@[irreducible] noncomputable def gE : Heap := entC.1
@[irreducible] noncomputable def LE : Addr := entC.2.1
@[irreducible] noncomputable def hE : Heap := entC.2.2.1
@[irreducible] noncomputable def tkE : Nat := entC.2.2.2
theorem walk (hvs : vs.length ≤ 100) (hl : ∀ p ∈ rest, p.1 ≠ l) (hne : @Ne Nat l x ∧ @Ne Nat l dx ∧ @Ne Nat x dx) (hn1 : Plain nm) (hn2 : nm.length ≤ 10) (hv1 : Plain val) (hv2 : val.length ≤ 100) : CtrLTo w 179 [.ref x, .str nm t1, .str val t2] [] 4 40 ((l, listOf vs.toArray n) :: (x, instObj 182 dx) :: (dx, hDict w t l) :: rest) (Added w l x dx t vs nm (line0 val) rest)  epsC.2 (∀ y0 y1, ent.1 gE LE hE tkE y0 y1) := by
  (intro cxB cxF cxX cxN cxT cxk cxd cxu cxr _ _); walk_at "mine more1"
  k_steps
  (exact Added.of rfl rfl (by k_mem) (by k_mem) (by k_mem) (by k_mem) (fun p hp => by simp only [List.mem_cons, hp, or_true]))
theorem walk2 (hvs : vs.length ≤ 100) (hl : ∀ p ∈ rest, p.1 ≠ l) (hne : @Ne Nat l x ∧ @Ne Nat l dx ∧ @Ne Nat x dx) (hn1 : Plain nm) (hn2 : nm.length ≤ 10) (hv1 : Plain val) (hv2 : val.length ≤ 100) : CtrLTo w 179 [.ref x, .str nm t1, .str val t2] [] 4 40 ((l, listOf vs.toArray n) :: (x, instObj 182 dx) :: (dx, hDict w t l) :: rest) (Added w l x dx t vs nm (line0 val) rest)  epsC.2 (entP entC) := by with_unfolding_all exact walk hvs hl hne hn1 hn2 hv1 hv2
theorem fin : epsP epsC := by
  with_unfolding_all exact fun hvs hl hne hn1 hn2 hv1 hv2 cxB cxF cxX cxN cxT cxk cxd cxu cxr => ent.2 hvs hl hne hn1 hn2 hv1 hv2 ⟨fun x0 x1 x2 x3 y0 y1 => of_worst (P := entP) (h := entN) (by with_unfolding_all exact walk2 hvs hl hne hn1 hn2 hv1 hv2 cxB cxF cxX cxN cxT cxk cxd cxu cxr) (x0, x1, x2, x3) y0 y1⟩ cxB cxF cxX cxN cxT cxk cxd cxu cxr
end E_add0_spec
theorem add0_spec (w : World) (x dx l : Addr) (t : Tok) (vs : List Value) (n : Nat) (nm val hr : Str) (t1 t2 t3 t4 : Tok) (hvs : vs.length ≤ 100) (rest : Led) (hl : ∀ p ∈ rest, p.1 ≠ l) (hne : @Ne Nat l x ∧ @Ne Nat l dx ∧ @Ne Nat x dx) (hn1 : Plain nm) (hn2 : nm.length ≤ 10) (hv1 : Plain val) (hv2 : val.length ≤ 100) : CtrL w 179 [.ref x, .str nm t1, .str val t2] [] 4 40 ((l, listOf vs.toArray n) :: (x, instObj 182 dx) :: (dx, hDict w t l) :: rest) (Added w l x dx t vs nm (line0 val) rest) := ctrL_of fun c9 => of_worst (P := E_add0_spec.epsP) (h := E_add0_spec.epsN) (by with_unfolding_all exact E_add0_spec.fin) ((w, x, dx, l, t, vs, n, nm, val, hr, t1, t2, t3, t4, rest), c9) hvs hl hne hn1 hn2 hv1 hv2
end
end
theorem sweepP11a {M : Model} {A : Around} {env : Env} {Q : Flow → Shared → Prop} {E : Value → Shared → Prop} {s : Shared} (h : wpAny M A (execs [] env) Q E s) : wpAny M A (execs [] env) Q E s := by w_top off; first | (walk1; fail "swept") | exact h
section
open PyProof.Rows.LCg PyProof.Rows.LCt
local macro_rules | `(tactic| k_all) => `(tactic| k_extra "mk1")
section
open PyProof.Rows.LCg PyProof.Rows.LCt
local macro_rules | `(tactic| walk_at "call ref") => `(tactic| k_extra "mv9")
local macro_rules | `(tactic| walk_at "call ref") => `(tactic| k_extra "mv10")
theorem sweepP11 {M : Model} {A : Around} {env : Env} {Q : Flow → Shared → Prop} {E : Value → Shared → Prop} {s : Shared} (h : wpAny M A (execs [] env) Q E s) : wpAny M A (execs [] env) Q E s := by w_top off; first | (walk1; fail "swept") | exact h
section
open PyProof.Rows.LCg PyProof.Rows.LCt
theorem use_led {w : World} {f : Addr} {pos : List Value} {kw : List (Str × Value)} {d u : Nat} {cells : Led} {Post : Led → Value → Prop}
  {p : Program} {loose : List Str} {mean : ExcName → Option Value} {mg mb : Str → Option Value} {dp un : Nat} {gd : Option (List Code)} {cn : Str} {cs : Scope} {a : Addr} {ccd : Value} {cl : List (Str × Addr)} {outer : List Env}
  {A₀ : Around} {base h₀ : Heap} {L : Addr} {m : Str → Option Value} {s : Shared} {Q E : Value → Shared → Prop} (S : Ctr w f pos kw d u cells Post) (B : Below A₀ base outer h₀) (F : Fr h₀ L s.heap m) (X : (K w.params).In h₀) (N : News h₀ L s.heap cells) (T : Top p loose mean mg mb h₀) (hk : cs.kind = .function) (hd : dp + d < recursionLimit) (hu : un + u < cLine)
    (h : ∀ v h' tk news', Fr h₀ L h' m → News h₀ L h' news' → Post news' v → Q v { s with heap := h', toks := tk }) :
    wpAny (model prog w) (ktrTop dp un gd cn cs L a ccd cl outer) (call (.ref f) pos kw) Q E s :=
  S _ _ _ _ _ _ _ _ _ _ _ _ _ _ _ _ _ _ _ _ _ _ B F X N T hk hd hu fun v h' tk news' F' N' _ hp => h v h' tk news' F' N' hp
theorem own_delItem {M : Model} {A : Around} {E : Value → Shared → Prop} {s : Shared} {K : Frag} {x C L f : Addr} {h₀ : Heap} {m : Str → Option Value} {ox : Obj} {od : Option Obj} {i : Value} {Q : Unit → Shared → Prop} (F : Fr h₀ L s.heap m) (X₀ : K.In h₀) (I : InstAt s.heap x ox C od) (hq : noSeq K C = true) (hs : findIn K (.ref C) "__delitem__" = some (some (.ref f))) (hf : isFn K (.ref f) = true)
    (h : wpAny M A (call (.ref f) [.ref x, i]) (fun _ s' => Q () s') E s) : wpAny M A (delItem (.ref x) i) Q E s := by
  have X := X₀.keeps F.keep
  unfold delItem sequenceKey
  refine wpAny_holding (wpAny_bind (wpAny_bind (I.type.here ?_)))
  refine wpAny_bind ((anyM_none X hq).here ?_)
  rw [if_pos (show (!false) = true from rfl)]
  exact wpAny_pure (wpAny_bind (special_fn X I hs (beq_iff_eq.mp hf) (wpAny_mono h (fun _ _ z => wpAny_pure z) fun _ _ z => z)))
local macro_rules | `(tactic| walk_at "delItem ref") => `(tactic| k_extra "mv19")
local macro_rules | `(tactic| walk_at "delItem ref str") => `(tactic| k_extra "mv19")
noncomputable def SetOk (w : World) (l x dx : Addr) (t : Tok) (pool : Led) (qs : List (Str × Str)) (nm val : Str) (led : Led) (v : Value) : Prop :=
  v = .none ∧ ∃ vs n T u1 u2, DatAll pool vs (qs.map pairD) ∧ ∀ p ∈ addedLed w l x dx t vs nm val pool T n u1 u2, p ∈ led
local macro_rules | `(tactic| walk_at "call ref") => `(tactic| k_extra "mv20")
namespace E_set_spec
noncomputable def epsP (q : (World × Addr × Addr × Addr × Tok × Tok × Tok × (List Value) × Nat × Str × Str × (List (Str × Str)) × Led) × Cx) : Prop := (fun (w : World) (x : Addr) (dx : Addr) (l : Addr) (t : Tok) (t1 : Tok) (t2 : Tok) (vs : List Value) (n : Nat) (nm : Str) (val : Str) (qs : List (Str × Str)) (pool : Led) (cx9 : Cx) => ∀ (hd : DatAll pool vs (qs.map pairD)) (hvs : vs.length ≤ 100) (hne : @Ne Nat l x ∧ @Ne Nat l dx ∧ @Ne Nat x dx) (hpl : ∀ p ∈ pool, p.1 ≠ l) (hnm : Plain (Txt.lower nm)) (hnl : (Txt.lower nm).length ≤ 10) (hnl2 : nm.length ≤ 10) (hql : ∀ q ∈ qs, q.1.length ≤ 10) (hn1 : Plain nm) (hv1 : Plain val) (hv2 : val.length ≤ 100), CtrAt w 97 [.ref x, .str nm t1, .str val t2] [] 5 60 ((l, W.listOf vs.toArray n) :: (x, instObj 182 dx) :: (dx, hDict w t l) :: pool) (SetOk w l x dx t pool (stayed nm qs) nm val)  cx9) q.1.1 q.1.2.1 q.1.2.2.1 q.1.2.2.2.1 q.1.2.2.2.2.1 q.1.2.2.2.2.2.1 q.1.2.2.2.2.2.2.1 q.1.2.2.2.2.2.2.2.1 q.1.2.2.2.2.2.2.2.2.1 q.1.2.2.2.2.2.2.2.2.2.1 q.1.2.2.2.2.2.2.2.2.2.2.1 q.1.2.2.2.2.2.2.2.2.2.2.2.1 q.1.2.2.2.2.2.2.2.2.2.2.2.2 q.2
theorem epsN : Nonempty ((World × Addr × Addr × Addr × Tok × Tok × Tok × (List Value) × Nat × Str × Str × (List (Str × Str)) × Led) × Cx) := ⟨((Classical.choice neWorld, default, default, default, default, default, default, default, default, default, default, default, default), Classical.choice neCx)⟩
@[irreducible] noncomputable def epsC : (World × Addr × Addr × Addr × Tok × Tok × Tok × (List Value) × Nat × Str × Str × (List (Str × Str)) × Led) × Cx := worst epsN epsP
@[irreducible] noncomputable def w : World := epsC.1.1
@[irreducible] noncomputable def x : Addr := epsC.1.2.1
@[irreducible] noncomputable def dx : Addr := epsC.1.2.2.1
@[irreducible] noncomputable def l : Addr := epsC.1.2.2.2.1
@[irreducible] noncomputable def t : Tok := epsC.1.2.2.2.2.1
@[irreducible] noncomputable def t1 : Tok := epsC.1.2.2.2.2.2.1
@[irreducible] noncomputable def t2 : Tok := epsC.1.2.2.2.2.2.2.1
@[irreducible] noncomputable def vs : List Value := epsC.1.2.2.2.2.2.2.2.1
@[irreducible] noncomputable def n : Nat := epsC.1.2.2.2.2.2.2.2.2.1
@[irreducible] noncomputable def nm : Str := epsC.1.2.2.2.2.2.2.2.2.2.1
@[irreducible] noncomputable def val : Str := epsC.1.2.2.2.2.2.2.2.2.2.2.1
@[irreducible] noncomputable def qs : List (Str × Str) := epsC.1.2.2.2.2.2.2.2.2.2.2.2.1
@[irreducible] noncomputable def pool : Led := epsC.1.2.2.2.2.2.2.2.2.2.2.2.2
noncomputable def ent : (TT9 : Heap → Addr → Heap → Prop) ×' (∀ (hd : DatAll pool vs (qs.map pairD)) (hvs : vs.length ≤ 100) (hne : @Ne Nat l x ∧ @Ne Nat l dx ∧ @Ne Nat x dx) (hpl : ∀ p ∈ pool, p.1 ≠ l) (hnm : Plain (Txt.lower nm)) (hnl : (Txt.lower nm).length ≤ 10) (hnl2 : nm.length ≤ 10) (hql : ∀ q ∈ qs, q.1.length ≤ 10) (hn1 : Plain nm) (hv1 : Plain val) (hv2 : val.length ≤ 100), Hid (∀ x0 x1 x2, TT9 x0 x1 x2) → CtrAt w 97 [.ref x, .str nm t1, .str val t2] [] 5 60 ((l, W.listOf vs.toArray n) :: (x, instObj 182 dx) :: (dx, hDict w t l) :: pool) (SetOk w l x dx t pool (stayed nm qs) nm val)  epsC.2) :=
  ⟨_, fun hd hvs hne hpl hnm hnl hnl2 hql hn1 hv1 hv2 H => by
    intro cxB cxF cxX cxN cxT cxk cxd cxu cxr
    ((refine wpAny_call ?_; k_dflt (refine' code_defG ?z14k1 ?z14k2 ?z14k3 ?z14k4 ?z14k5 ?z14kA ?z14kF ?z14kK ?z14k6 ?z14k7 ?z14k8 ?z14k9 ?z14kB ?_ ?z14c2 ?z14c3 ?z14c4 ?z14c5; (case z14kA => exact rfl); (case z14kF => exact rfl); (case z14kK => assumption); (case z14k1 => k_asm); (case z14k2 => k_asm); (case z14k3 => k_asm); (case z14k4 => k_asm); (case z14k5 => k_asm); (case z14k6 => k_is); (case z14k7 => k_is); (case z14k8 => ktr_room); (case z14k9 => first | exact BindsTo.of_eq rfl | exact binds_K (by k_in) rfl (by k_is) rfl rfl rfl | fail "mine enter: no rule for these arguments"); (case z14c5 => decide); (case z14kB => exact locs rfl); (case z14c2 => exact rfl); (case z14c3 => exact rfl); (case z14c4 => exact rfl); k_whole)))
    exact H.out⟩
theorem entN : Nonempty (Heap × Addr × Heap) := ⟨(default, 0, default)⟩
noncomputable def entP (q : Heap × Addr × Heap) : Prop := ent.1 q.1 q.2.1 q.2.2
@[irreducible] noncomputable def entC : Heap × Addr × Heap := worst entN entP
@[irreducible] noncomputable def gE : Heap := entC.1
@[irreducible] noncomputable def LE : Addr := entC.2.1
@[irreducible] noncomputable def hE : Heap := entC.2.2
theorem walk (hd : DatAll pool vs (qs.map pairD)) (hvs : vs.length ≤ 100) (hne : @Ne Nat l x ∧ @Ne Nat l dx ∧ @Ne Nat x dx) (hpl : ∀ p ∈ pool, p.1 ≠ l) (hnm : Plain (Txt.lower nm)) (hnl : (Txt.lower nm).length ≤ 10) (hnl2 : nm.length ≤ 10) (hql : ∀ q ∈ qs, q.1.length ≤ 10) (hn1 : Plain nm) (hv1 : Plain val) (hv2 : val.length ≤ 100) : CtrTo w 97 [.ref x, .str nm t1, .str val t2] [] 5 60 ((l, W.listOf vs.toArray n) :: (x, instObj 182 dx) :: (dx, hDict w t l) :: pool) (SetOk w l x dx t pool (stayed nm qs) nm val)  epsC.2 (ent.1 gE LE hE) := by
  (intro cxB cxF cxX cxN cxT cxk cxd cxu cxr); walk_at "mine pure1"
  k_steps
  exact ⟨rfl, _, _, _, _, _, (by assumption), (by
    unfold addedLed
    refine List.forall_mem_cons.mpr ⟨by rw [← List.push_toArray]; k_mem, List.forall_mem_cons.mpr ⟨by k_mem, List.forall_mem_cons.mpr ⟨by k_mem, List.forall_mem_cons.mpr ⟨by k_mem, fun p hp => by simp only [List.mem_cons, hp, or_true]⟩⟩⟩⟩)⟩
theorem walk2 (hd : DatAll pool vs (qs.map pairD)) (hvs : vs.length ≤ 100) (hne : @Ne Nat l x ∧ @Ne Nat l dx ∧ @Ne Nat x dx) (hpl : ∀ p ∈ pool, p.1 ≠ l) (hnm : Plain (Txt.lower nm)) (hnl : (Txt.lower nm).length ≤ 10) (hnl2 : nm.length ≤ 10) (hql : ∀ q ∈ qs, q.1.length ≤ 10) (hn1 : Plain nm) (hv1 : Plain val) (hv2 : val.length ≤ 100) : CtrTo w 97 [.ref x, .str nm t1, .str val t2] [] 5 60 ((l, W.listOf vs.toArray n) :: (x, instObj 182 dx) :: (dx, hDict w t l) :: pool) (SetOk w l x dx t pool (stayed nm qs) nm val)  epsC.2 (entP entC) := by with_unfolding_all exact walk hd hvs hne hpl hnm hnl hnl2 hql hn1 hv1 hv2
theorem fin : epsP epsC := by
  with_unfolding_all exact fun hd hvs hne hpl hnm hnl hnl2 hql hn1 hv1 hv2 cxB cxF cxX cxN cxT cxk cxd cxu cxr => ent.2 hd hvs hne hpl hnm hnl hnl2 hql hn1 hv1 hv2 ⟨fun x0 x1 x2 => of_worst (P := entP) (h := entN) (by with_unfolding_all exact walk2 hd hvs hne hpl hnm hnl hnl2 hql hn1 hv1 hv2 cxB cxF cxX cxN cxT cxk cxd cxu cxr) (x0, x1, x2)⟩ cxB cxF cxX cxN cxT cxk cxd cxu cxr
end E_set_spec
theorem set_spec (w : World) (x dx l : Addr) (t t1 t2 : Tok) (vs : List Value) (n : Nat) (nm val : Str) (qs : List (Str × Str)) (pool : Led) (hd : DatAll pool vs (qs.map pairD)) (hvs : vs.length ≤ 100) (hne : @Ne Nat l x ∧ @Ne Nat l dx ∧ @Ne Nat x dx) (hpl : ∀ p ∈ pool, p.1 ≠ l) (hnm : Plain (Txt.lower nm)) (hnl : (Txt.lower nm).length ≤ 10) (hnl2 : nm.length ≤ 10) (hql : ∀ q ∈ qs, q.1.length ≤ 10) (hn1 : Plain nm) (hv1 : Plain val) (hv2 : val.length ≤ 100) : Ctr w 97 [.ref x, .str nm t1, .str val t2] [] 5 60 ((l, W.listOf vs.toArray n) :: (x, instObj 182 dx) :: (dx, hDict w t l) :: pool) (SetOk w l x dx t pool (stayed nm qs) nm val) := ctr_of fun c9 => of_worst (P := E_set_spec.epsP) (h := E_set_spec.epsN) (by with_unfolding_all exact E_set_spec.fin) ((w, x, dx, l, t, t1, t2, vs, n, nm, val, qs, pool), c9) hd hvs hne hpl hnm hnl hnl2 hql hn1 hv1 hv2
end
end
theorem sweepP13a {M : Model} {A : Around} {env : Env} {Q : Flow → Shared → Prop} {E : Value → Shared → Prop} {s : Shared} (h : wpAny M A (execs [] env) Q E s) : wpAny M A (execs [] env) Q E s := by w_top off; first | (walk1; fail "swept") | exact h
section
open PyProof.Rows.LCg PyProof.Rows.LCt
local macro_rules | `(tactic| walk_at "compareOp Lt ref ref") => `(tactic| k_extra "mv13")
section
open PyProof.Rows.LCg PyProof.Rows.LCt
local macro_rules | `(tactic| walk_at "exec While Compare cons nil") => `(tactic| refine Paused.intro ?_)
section
open PyProof.Rows.LCg PyProof.Rows.LCt
local macro_rules | `(tactic| walk_at "setItem ref int") => `(tactic| (k_dflt (refine' set_key (i := ?ki) ?kF ?kN ?kh ?kt ?kl ?kU ?_; (case kF => k_asm); (case kN => k_asm); (case kh => rfl); (case kU => k_upd); (case kt => assumption); (case kl => assumption)); intro h' F' N'))
section
open PyProof.Rows.LCg PyProof.Rows.LCt
local macro_rules | `(tactic| walk_at "subscriptTail") => `(tactic| (k_dflt (refine' item_key (i := ?ki) ?kN ?km ?kh ?kk ?kl ?_; (case kN => k_asm); (case km => k_mem); (case kk => assumption); (case kh => first | assumption | rfl | omega); (case kl => first | assumption | omega))))
theorem sweepP13 {M : Model} {A : Around} {env : Env} {Q : Flow → Shared → Prop} {E : Value → Shared → Prop} {s : Shared} (h : wpAny M A (execs [] env) Q E s) : wpAny M A (execs [] env) Q E s := by w_top off; first | (walk1; fail "swept") | exact h
section
open PyProof.Rows.LCg PyProof.Rows.LCt
theorem len_key {prog : Program} {w : World} {A : Around} {E : Value → Shared → Prop} {s : Shared} {h₀ : Heap} {L l : Addr} {news : Led} {g : Nat → Addr} {ks : List Nat} {n : Nat} {Q : Value → Shared → Prop} (N : News h₀ L s.heap news) (hm : (l, W.listOf (hl g ks).toArray n) ∈ news) (hlen : ks.length ≤ 50)
    (h : Q (.int (ks.length : Int) (s.toks + 1)) { s with toks := s.toks + 1 + 1 }) : wpAny (model prog w) A (call (.builtin "len") [.ref l]) Q E s := by
  have e : (hl g ks).toArray.size = ks.length := by simp
  refine len_list (PySem.IsL.isList (n := n) (N _ hm).1) (by rw [e]; omega) ?_
  rw [e]
  exact h
local macro_rules | `(tactic| walk_at "call builtin:len") => `(tactic| (k_dflt (refine' len_key ?kN ?km ?kl ?_; (case kN => k_asm); (case km => k_mem); (case kl => assumption))))
local macro_rules | `(tactic| walk_at "subscriptTail") => `(tactic| (k_dflt (refine' item_key (i := ?ki) ?kN ?km ?kh ?kk ?kl ?_; (case kN => k_asm); (case km => k_mem); (case kh => first | assumption | rfl); (case kk => assumption); (case kl => assumption))))
local macro_rules | `(tactic| walk_at "call ref") => `(tactic| ((with_reducible show wpAny _ _ (call (Value.ref 207) _) _ _ _); k_dflt (refine' use_led (sd_spec _ _ _ _ _ _ _ _ _ _ ?q1 ?q2 ?q3 ?q4 ?q5) ?k1 ?k2 ?k3 ?k4 ?k5 ?k6 ?k7 ?k8 ?_; (case k1 => k_asm); (case k2 => k_asm); (case k3 => k_asm); (case k4 => k_asm); (case k5 => k_asm); (case k6 => first | assumption | exact rfl); (case k7 => ktr_room); (case k8 => ktr_units); (case q3 => assumption); (case q4 => assumption); (case q1 => assumption); (case q2 => assumption); (case q5 => assumption)); intro v' h' tk' n9 F' N8 hP'; (obtain ⟨hv', n8, hs8⟩ := hP'); subst hv'; (have N' := News.sub N8 hs8); clear hs8 N8; (try dsimp only); (try k_fold)))
noncomputable def child (ks : List Nat) (p : Nat) : Nat := if 2 * p + 1 + 1 < ks.length ∧ ¬ (ks.getD (2 * p + 1) 0 < ks.getD (2 * p + 1 + 1) 0) then 2 * p + 1 + 1 else 2 * p + 1
noncomputable def suGo (new : Nat) : Nat → List Nat → Nat → List Nat × Nat
  | 0, ks, p => (ks.set p new, p)
  | f + 1, ks, p => if 2 * p + 1 < ks.length then suGo new f (ks.set p (ks.getD (child ks p) 0)) (child ks p) else (ks.set p new, p)
noncomputable def su (new : Nat) (ks : List Nat) : List Nat := sdGo new ((suGo new (ks.length + 1) ks 0).2 + 1) (suGo new (ks.length + 1) ks 0).1 (suGo new (ks.length + 1) ks 0).2
namespace E_su_spec
noncomputable def epsP (q : (World × Addr × Tok × (List Nat) × (Nat → Addr) × Nat × Nat × Led) × Cx) : Prop := (fun (w : World) (l : Addr) (t1 : Tok) (ks : List Nat) (g : Nat → Addr) (n : Nat) (new : Nat) (pool : Led) (cx9 : Cx) => ∀ (hg : ∀ k ∈ ks, KeyAt pool (.ref (g k)) k) (hlen : ks.length ≤ 50) (hpl : ∀ p ∈ pool, p.1 ≠ l) (hnew : ks[0]? = some new) (hnd : ks.Nodup), CtrAt w 214 [.ref l, .int 0 t1] [] 5 60 ((l, W.listOf (hl g ks).toArray n) :: pool) (HeapNow l pool g (su new ks))  cx9) q.1.1 q.1.2.1 q.1.2.2.1 q.1.2.2.2.1 q.1.2.2.2.2.1 q.1.2.2.2.2.2.1 q.1.2.2.2.2.2.2.1 q.1.2.2.2.2.2.2.2 q.2
theorem epsN : Nonempty ((World × Addr × Tok × (List Nat) × (Nat → Addr) × Nat × Nat × Led) × Cx) := ⟨((Classical.choice neWorld, default, default, default, default, default, default, default), Classical.choice neCx)⟩
@[irreducible] noncomputable def epsC : (World × Addr × Tok × (List Nat) × (Nat → Addr) × Nat × Nat × Led) × Cx := worst epsN epsP
@[irreducible] noncomputable def w : World := epsC.1.1
@[irreducible] noncomputable def l : Addr := epsC.1.2.1
@[irreducible] noncomputable def t1 : Tok := epsC.1.2.2.1
@[irreducible] noncomputable def ks : List Nat := epsC.1.2.2.2.1
@[irreducible] noncomputable def g : Nat → Addr := epsC.1.2.2.2.2.1
@[irreducible] noncomputable def n : Nat := epsC.1.2.2.2.2.2.1
@[irreducible] noncomputable def new : Nat := epsC.1.2.2.2.2.2.2.1
@[irreducible] noncomputable def pool : Led := epsC.1.2.2.2.2.2.2.2
noncomputable def ent : (TT9 : Heap → Addr → Heap → Prop) ×' (∀ (hg : ∀ k ∈ ks, KeyAt pool (.ref (g k)) k) (hlen : ks.length ≤ 50) (hpl : ∀ p ∈ pool, p.1 ≠ l) (hnew : ks[0]? = some new) (hnd : ks.Nodup), Hid (∀ x0 x1 x2, TT9 x0 x1 x2) → CtrAt w 214 [.ref l, .int 0 t1] [] 5 60 ((l, W.listOf (hl g ks).toArray n) :: pool) (HeapNow l pool g (su new ks))  epsC.2) :=
  ⟨_, fun hg hlen hpl hnew hnd H => by
    intro cxB cxF cxX cxN cxT cxk cxd cxu cxr
    ((refine wpAny_call ?_; k_dflt (refine' code_defG ?z15k1 ?z15k2 ?z15k3 ?z15k4 ?z15k5 ?z15kA ?z15kF ?z15kK ?z15k6 ?z15k7 ?z15k8 ?z15k9 ?z15kB ?_ ?z15c2 ?z15c3 ?z15c4 ?z15c5; (case z15kA => exact rfl); (case z15kF => exact rfl); (case z15kK => assumption); (case z15k1 => k_asm); (case z15k2 => k_asm); (case z15k3 => k_asm); (case z15k4 => k_asm); (case z15k5 => k_asm); (case z15k6 => k_is); (case z15k7 => k_is); (case z15k8 => ktr_room); (case z15k9 => first | exact BindsTo.of_eq rfl | exact binds_K (by k_in) rfl (by k_is) rfl rfl rfl | fail "mine enter: no rule for these arguments"); (case z15c5 => decide); (case z15kB => exact locs rfl); (case z15c2 => exact rfl); (case z15c3 => exact rfl); (case z15c4 => exact rfl); k_whole)))
    exact H.out⟩
theorem entN : Nonempty (Heap × Addr × Heap) := ⟨(default, 0, default)⟩
noncomputable def entP (q : Heap × Addr × Heap) : Prop := ent.1 q.1 q.2.1 q.2.2
@[irreducible] noncomputable def entC : Heap × Addr × Heap := worst entN entP
@[irreducible] noncomputable def gE : Heap := entC.1
@[irreducible] noncomputable def LE : Addr := entC.2.1
@[irreducible] noncomputable def hE : Heap := entC.2.2
theorem walk (hg : ∀ k ∈ ks, KeyAt pool (.ref (g k)) k) (hlen : ks.length ≤ 50) (hpl : ∀ p ∈ pool, p.1 ≠ l) (hnew : ks[0]? = some new) (hnd : ks.Nodup) : CtrTo w 214 [.ref l, .int 0 t1] [] 5 60 ((l, W.listOf (hl g ks).toArray n) :: pool) (HeapNow l pool g (su new ks))  epsC.2 (ent.1 gE LE hE) := by
  (intro cxB cxF cxX cxN cxT cxk cxd cxu cxr); walk_at "mine pure1"
  have hlt : 0 < ks.length := (List.getElem?_eq_some_iff.mp hnew).1
  have hkn : KeyAt pool (.ref (g new)) new := hg new (List.mem_of_getElem? hnew)
  k_steps
  unfold Paused
  refine While_nat2 (Str.ofString "pos") (Str.ofString "childpos") (by decide +kernel) [Str.ofString "rightpos"]
    (fun f p c led => c = 2 * p + 1 ∧ ∃ ks', led = (l, W.listOf (hl g ks').toArray n) :: pool ∧ ks'.length = ks.length ∧ p < ks.length ∧ ks.length < p + f ∧ (∀ k ∈ ks', k ∈ ks) ∧ (∀ i k, i ≠ p → ks'[i]? = some k → k ≠ new) ∧ (∀ i j a b, p < i → p < j → i ≠ j → ks'[i]? = some a → ks'[j]? = some b → a ≠ b) ∧ suGo new f ks' p = suGo new (ks.length + 1) ks 0)
    (n₀ := ks.length + 1) (i₀ := 0) (j₀ := 1) (by assumption) (by assumption) rfl rfl ⟨rfl, ks, rfl, rfl, hlt, by omega, fun _ h => h, ?d1, ?d2, rfl⟩ ?turn (by passes_own)
  case d1 =>
    intro i k hi hk e
    subst e
    exact hi ((List.getElem?_inj (List.getElem?_eq_some_iff.mp hk).1 hnd).mp (hk.trans hnew.symm))
  case d2 =>
    intro i j a b _ _ hij ha hb e
    subst e
    exact hij ((List.getElem?_inj (List.getElem?_eq_some_iff.mp ha).1 hnd).mp (ha.trans hb.symm))
  case turn =>
    clear hnew
    rintro f p z t t' u led h9 tk9 F9 N9 ⟨rfl, ks', rfl, hl', hp, hpf, hsub, hd1, hd2, hgo⟩
    have hl50 : ks'.length ≤ 50 := by omega
    have hp2 : p < ks'.length := by omega
    obtain ⟨f, rfl⟩ : ∃ f', f = f' + 1 := ⟨f - 1, by omega⟩
    by_cases hA : 2 * p + 1 < ks.length
    · have fin : ∀ c k, ks'[c]? = some k → p < c → child ks' p = c → 2 * c + 1 = 2 * c + 1 ∧ ∃ ks'', (l, W.listOf (hl g (ks'.set p k)).toArray n) :: pool = (l, W.listOf (hl g ks'').toArray n) :: pool ∧ ks''.length = ks.length ∧ c < ks.length ∧ ks.length < c + f ∧ (∀ k ∈ ks'', k ∈ ks) ∧ (∀ i k, i ≠ c → ks''[i]? = some k → k ≠ new) ∧ (∀ i j a b, c < i → c < j → i ≠ j → ks''[i]? = some a → ks''[j]? = some b → a ≠ b) ∧ suGo new f ks'' c = suGo new (ks.length + 1) ks 0 := by
        intro c k hc hpc hch
        have hcl := (List.getElem?_eq_some_iff.mp hc).1
        refine ⟨rfl, ks'.set p k, rfl, by rw [List.length_set, hl'], by omega, by omega, ?_, ?_, ?_, ?_⟩
        · intro k' hk'
          rcases List.mem_or_eq_of_mem_set hk' with h | rfl
          · exact hsub k' h
          · exact hsub _ (List.mem_of_getElem? hc)
        · intro i k' hi hik
          by_cases hip : i = p
          · subst hip
            rw [List.getElem?_set_self hp2] at hik
            cases hik
            exact hd1 c k (by omega) hc
          · rw [List.getElem?_set_ne (fun e => hip e.symm)] at hik
            exact hd1 i k' hip hik
        · intro i j a b hi hj hij hai hbj
          rw [List.getElem?_set_ne (by omega)] at hai hbj
          exact hd2 i j a b (by omega) (by omega) hij hai hbj
        · rw [← hgo, suGo, if_pos (by omega), hch, List.getD_eq_getElem?_getD, hc]
          rfl
      by_cases hC : 2 * p + 1 + 1 < ks.length
      · have hr : (((2 * p + 1 : Nat) : Int) + 1) = ((2 * p + 1 + 1 : Nat) : Int) := rfl
        obtain ⟨a, ha⟩ : ∃ a, ks'[2 * p + 1]? = some a := ⟨_, List.getElem?_eq_getElem (by omega)⟩
        obtain ⟨b, hb⟩ : ∃ b, ks'[2 * p + 1 + 1]? = some b := ⟨_, List.getElem?_eq_getElem (by omega)⟩
        have hab : a ≠ b := hd2 _ _ _ _ (by omega) (by omega) (by omega) ha hb
        have hka : KeyAt pool (.ref (g a)) a := hg a (hsub _ (List.mem_of_getElem? ha))
        have hkb : KeyAt pool (.ref (g b)) b := hg b (hsub _ (List.mem_of_getElem? hb))
        k_steps
        all_goals (try (walk_at "subscriptTail"; k_steps))
        all_goals (try (walk_at "subscriptTail"; k_steps))
        all_goals (try (walk_at "subscriptTail"; k_steps))
        all_goals (try (walk_at "setItem ref int"; k_steps))
        · have hlt9 : a < b := by first | assumption | omega | (simpa using (by assumption : decide (a < b) = true))
          refine nat_cont (2 * p + 1) (2 * (2 * p + 1) + 1) _ (.inl rfl) (by assumption) (by assumption) (Nat.lt_succ_self _) (by with_unfolding_all rfl) (by with_unfolding_all rfl) rfl rfl ?_ (fin _ _ ha (by omega) ?_)
          · intro y h1 h2 h3
            (repeat first | rw [if_neg h1] | rw [if_neg h2] | rw [if_neg (off_st h3 (by decide +kernel))] | rw [if_neg (off_in h3)])
          · unfold child
            rw [if_neg]
            rw [List.getD_eq_getElem?_getD, List.getD_eq_getElem?_getD, ha, hb]
            exact fun h => h.2 hlt9
        · have hlt9 : ¬ a < b := by first | assumption | omega | (simpa using (by assumption : decide (a < b) = false))
          refine nat_cont (2 * p + 1 + 1) (2 * (2 * p + 1 + 1) + 1) _ (.inl rfl) (by assumption) (by assumption) (Nat.lt_succ_self _) (by with_unfolding_all rfl) (by with_unfolding_all rfl) rfl rfl ?_ (fin _ _ hb (by omega) ?_)
          · intro y h1 h2 h3
            (repeat first | rw [if_neg h1] | rw [if_neg h2] | rw [if_neg (off_st h3 (by decide +kernel))] | rw [if_neg (off_in h3)])
          · unfold child
            rw [if_pos]
            rw [List.getD_eq_getElem?_getD, List.getD_eq_getElem?_getD, ha, hb]
            exact ⟨by omega, hlt9⟩
      · obtain ⟨a, ha⟩ : ∃ a, ks'[2 * p + 1]? = some a := ⟨_, List.getElem?_eq_getElem (by omega)⟩
        k_steps
        all_goals (try (walk_at "subscriptTail"; k_steps))
        all_goals (try (walk_at "setItem ref int"; k_steps))
        · refine nat_cont (2 * p + 1) (2 * (2 * p + 1) + 1) _ (.inl rfl) (by assumption) (by assumption) (Nat.lt_succ_self _) (by with_unfolding_all rfl) (by with_unfolding_all rfl) rfl rfl ?_ (fin _ _ ha (by omega) ?_)
          · intro y h1 h2 h3
            (repeat first | rw [if_neg h1] | rw [if_neg h2] | rw [if_neg (off_st h3 (by decide +kernel))] | rw [if_neg (off_in h3)])
          · unfold child
            rw [if_neg]
            exact fun h => hC (by omega)
    · have e1 : suGo new (f + 1) ks' p = (ks'.set p new, p) := by rw [suGo, if_neg (by omega)]
      have hn2 : (ks'.set p new)[p]? = some new := by rw [List.getElem?_set_self hp2]
      have hs2 : ∀ k ∈ ks'.set p new, KeyAt pool (.ref (g k)) k := fun k hk => by
        rcases List.mem_or_eq_of_mem_set hk with h | rfl
        · exact hg k (hsub k h)
        · exact hkn
      have hd3 : ∀ i k, i < p → (ks'.set p new)[i]? = some k → k ≠ new := fun i k hi hk => by
        rw [List.getElem?_set_ne (by omega)] at hk
        exact hd1 i k (by omega) hk
      have hl51 : (ks'.set p new).length ≤ 50 := by rw [List.length_set]; exact hl50
      k_steps
      unfold su HeapNow
      rw [← hgo, e1]
      exact ⟨rfl, _, fun _ h => h⟩
theorem walk2 (hg : ∀ k ∈ ks, KeyAt pool (.ref (g k)) k) (hlen : ks.length ≤ 50) (hpl : ∀ p ∈ pool, p.1 ≠ l) (hnew : ks[0]? = some new) (hnd : ks.Nodup) : CtrTo w 214 [.ref l, .int 0 t1] [] 5 60 ((l, W.listOf (hl g ks).toArray n) :: pool) (HeapNow l pool g (su new ks))  epsC.2 (entP entC) := by with_unfolding_all exact walk hg hlen hpl hnew hnd
theorem fin : epsP epsC := by
  with_unfolding_all exact fun hg hlen hpl hnew hnd cxB cxF cxX cxN cxT cxk cxd cxu cxr => ent.2 hg hlen hpl hnew hnd ⟨fun x0 x1 x2 => of_worst (P := entP) (h := entN) (by with_unfolding_all exact walk2 hg hlen hpl hnew hnd cxB cxF cxX cxN cxT cxk cxd cxu cxr) (x0, x1, x2)⟩ cxB cxF cxX cxN cxT cxk cxd cxu cxr
end E_su_spec
theorem su_spec (w : World) (l : Addr) (t1 : Tok) (ks : List Nat) (g : Nat → Addr) (n new : Nat) (pool : Led) (hg : ∀ k ∈ ks, KeyAt pool (.ref (g k)) k) (hlen : ks.length ≤ 50) (hpl : ∀ p ∈ pool, p.1 ≠ l) (hnew : ks[0]? = some new) (hnd : ks.Nodup) : Ctr w 214 [.ref l, .int 0 t1] [] 5 60 ((l, W.listOf (hl g ks).toArray n) :: pool) (HeapNow l pool g (su new ks)) := ctr_of fun c9 => of_worst (P := E_su_spec.epsP) (h := E_su_spec.epsN) (by with_unfolding_all exact E_su_spec.fin) ((w, l, t1, ks, g, n, new, pool), c9) hg hlen hpl hnew hnd
end
end
theorem sweepP14a {M : Model} {A : Around} {env : Env} {Q : Flow → Shared → Prop} {E : Value → Shared → Prop} {s : Shared} (h : wpAny M A (execs [] env) Q E s) : wpAny M A (execs [] env) Q E s := by w_top off; first | (walk1; fail "swept") | exact h
section
open PyProof.Rows.LCg PyProof.Rows.LCt
local macro_rules | `(tactic| walk_at "call builtin:len") => `(tactic| (k_dflt (refine' len_key ?kN ?km ?kl ?_; (case kN => k_asm); (case km => k_mem); (case kl => assumption))))
section
open PyProof.Rows.LCg PyProof.Rows.LCt
local macro_rules | `(tactic| walk_at "call ref") => `(tactic| ((with_reducible show wpAny _ _ (call (Value.ref 207) _) _ _ _); k_dflt (refine' use_led (sd_spec _ _ _ _ _ _ _ _ _ _ ?q1 ?q2 ?q3 ?q4 ?q5) ?k1 ?k2 ?k3 ?k4 ?k5 ?k6 ?k7 ?k8 ?_; (case k1 => k_asm); (case k2 => k_asm); (case k3 => k_asm); (case k4 => k_asm); (case k5 => k_asm); (case k6 => first | assumption | exact rfl); (case k7 => ktr_room); (case k8 => ktr_units); (case q3 => assumption); (case q4 => assumption); (case q1 => assumption); (case q2 => assumption); (case q5 => assumption)); intro v' h' tk' n9 F' N8 hP'; (obtain ⟨hv', n8, hs8⟩ := hP'); subst hv'; (have N' := News.sub N8 hs8); clear hs8 N8; (try dsimp only); (try k_fold)))
section
open PyProof.Rows.LCg PyProof.Rows.LCt
local macro_rules | `(tactic| walk_at "subscriptTail") => `(tactic| (k_dflt (refine' item_key (i := ?ki) ?kN ?km ?kh ?kk ?kl ?_; (case kN => k_asm); (case km => k_mem); (case kk => assumption); (case kh => first | assumption | rfl | omega); (case kl => first | assumption | omega))))
local macro_rules | `(tactic| walk_at "subscriptTail") => `(tactic| (k_dflt (refine' item_key (i := ?ki) ?kN ?km ?kh ?kk ?kl ?_; (case kN => k_asm); (case km => k_mem); (case kh => first | assumption | rfl); (case kk => assumption); (case kl => assumption))))
theorem sweepP14 {M : Model} {A : Around} {env : Env} {Q : Flow → Shared → Prop} {E : Value → Shared → Prop} {s : Shared} (h : wpAny M A (execs [] env) Q E s) : wpAny M A (execs [] env) Q E s := by w_top off; first | (walk1; fail "swept") | exact h
section
open PyProof.Rows.LCg PyProof.Rows.LCt
noncomputable def HeapPop (l : Addr) (pool : Led) (g : Nat → Addr) (ks : List Nat) (top : Nat) (led : Led) (v : Value) : Prop :=
  v = .ref (g top) ∧ ∃ n, ∀ p ∈ (l, W.listOf (hl g ks).toArray n) :: pool, p ∈ led
theorem pop_key {prog : Program} {w : World} {A : Around} {E : Value → Shared → Prop} {s : Shared} {h₀ : Heap} {L l : Addr} {m : Str → Option Value} {news news' : Led} {g : Nat → Addr} {ks : List Nat} {n k : Nat} {Q : Value → Shared → Prop} (F : Fr h₀ L s.heap m) (N : News h₀ L s.heap news) (hlen : ks.length ≤ 50)
    (U : Upd l (W.listOf (hl g (ks ++ [k])).toArray n) (W.listOf (hl g ks).toArray (n + 1)) news news') (h : ∀ h', Fr h₀ L h' m → News h₀ L h' news' → Q (.ref (g k)) { s with heap := h' }) : wpAny (model prog w) A (call (.builtin "list.pop") [.ref l]) Q E s := by
  refine kl_pop F N (p := hl g ks) (y := .ref (g k)) ?_ U ?_ h
  · show kl_last (hl g (ks ++ [k])) = _
    rw [show hl g (ks ++ [k]) = hl g ks ++ [.ref (g k)] from by simp]
    exact kpa_last _ _
  · rw [sizeLine_eq]; simp; omega
namespace E_push_spec
noncomputable def epsP (q : (World × Addr × (List Nat) × (Nat → Addr) × Nat × Nat × Led) × Cx) : Prop := (fun (w : World) (l : Addr) (ks : List Nat) (g : Nat → Addr) (n : Nat) (k : Nat) (pool : Led) (cx9 : Cx) => ∀ (hg : ∀ k ∈ ks, KeyAt pool (.ref (g k)) k) (hk : KeyAt pool (.ref (g k)) k) (hlen : ks.length ≤ 40) (hpl : ∀ p ∈ pool, p.1 ≠ l) (hnk : k ∉ ks), CtrAt w 193 [.ref l, .ref (g k)] [] 5 60 ((l, W.listOf (hl g ks).toArray n) :: pool) (HeapNow l pool g (sdGo k (ks.length + 1) (ks ++ [k]) ks.length))  cx9) q.1.1 q.1.2.1 q.1.2.2.1 q.1.2.2.2.1 q.1.2.2.2.2.1 q.1.2.2.2.2.2.1 q.1.2.2.2.2.2.2 q.2
theorem epsN : Nonempty ((World × Addr × (List Nat) × (Nat → Addr) × Nat × Nat × Led) × Cx) := ⟨((Classical.choice neWorld, default, default, default, default, default, default), Classical.choice neCx)⟩
@[irreducible] noncomputable def epsC : (World × Addr × (List Nat) × (Nat → Addr) × Nat × Nat × Led) × Cx := worst epsN epsP
@[irreducible] noncomputable def w : World := epsC.1.1
@[irreducible] noncomputable def l : Addr := epsC.1.2.1
@[irreducible] noncomputable def ks : List Nat := epsC.1.2.2.1
@[irreducible] noncomputable def g : Nat → Addr := epsC.1.2.2.2.1
@[irreducible] noncomputable def n : Nat := epsC.1.2.2.2.2.1
@[irreducible] noncomputable def k : Nat := epsC.1.2.2.2.2.2.1
@[irreducible] noncomputable def pool : Led := epsC.1.2.2.2.2.2.2
noncomputable def ent : (TT9 : Heap → Addr → Heap → Prop) ×' (∀ (hg : ∀ k ∈ ks, KeyAt pool (.ref (g k)) k) (hk : KeyAt pool (.ref (g k)) k) (hlen : ks.length ≤ 40) (hpl : ∀ p ∈ pool, p.1 ≠ l) (hnk : k ∉ ks), Hid (∀ x0 x1 x2, TT9 x0 x1 x2) → CtrAt w 193 [.ref l, .ref (g k)] [] 5 60 ((l, W.listOf (hl g ks).toArray n) :: pool) (HeapNow l pool g (sdGo k (ks.length + 1) (ks ++ [k]) ks.length))  epsC.2) :=
  ⟨_, fun hg hk hlen hpl hnk H => by
    intro cxB cxF cxX cxN cxT cxk cxd cxu cxr
    ((refine wpAny_call ?_; k_dflt (refine' code_defG ?z16k1 ?z16k2 ?z16k3 ?z16k4 ?z16k5 ?z16kA ?z16kF ?z16kK ?z16k6 ?z16k7 ?z16k8 ?z16k9 ?z16kB ?_ ?z16c2 ?z16c3 ?z16c4 ?z16c5; (case z16kA => exact rfl); (case z16kF => exact rfl); (case z16kK => assumption); (case z16k1 => k_asm); (case z16k2 => k_asm); (case z16k3 => k_asm); (case z16k4 => k_asm); (case z16k5 => k_asm); (case z16k6 => k_is); (case z16k7 => k_is); (case z16k8 => ktr_room); (case z16k9 => first | exact BindsTo.of_eq rfl | exact binds_K (by k_in) rfl (by k_is) rfl rfl rfl | fail "mine enter: no rule for these arguments"); (case z16c5 => decide); (case z16kB => exact locs rfl); (case z16c2 => exact rfl); (case z16c3 => exact rfl); (case z16c4 => exact rfl); k_whole)))
    exact H.out⟩
theorem entN : Nonempty (Heap × Addr × Heap) := ⟨(default, 0, default)⟩
noncomputable def entP (q : Heap × Addr × Heap) : Prop := ent.1 q.1 q.2.1 q.2.2
@[irreducible] noncomputable def entC : Heap × Addr × Heap := worst entN entP
@[irreducible] noncomputable def gE : Heap := entC.1
@[irreducible] noncomputable def LE : Addr := entC.2.1
@[irreducible] noncomputable def hE : Heap := entC.2.2
theorem walk (hg : ∀ k ∈ ks, KeyAt pool (.ref (g k)) k) (hk : KeyAt pool (.ref (g k)) k) (hlen : ks.length ≤ 40) (hpl : ∀ p ∈ pool, p.1 ≠ l) (hnk : k ∉ ks) : CtrTo w 193 [.ref l, .ref (g k)] [] 5 60 ((l, W.listOf (hl g ks).toArray n) :: pool) (HeapNow l pool g (sdGo k (ks.length + 1) (ks ++ [k]) ks.length))  epsC.2 (ent.1 gE LE hE) := by
  (intro cxB cxF cxX cxN cxT cxk cxd cxu cxr); walk_at "mine pure1"
  have hl50 : ks.length ≤ 50 := by omega
  have hvs : (hl g ks).length ≤ 100 := by rw [List.length_map]; omega
  k_steps
  have e9 : hl g ks ++ [Value.ref (g k)] = hl g (ks ++ [k]) := by simp
  (rename News _ _ _ _ => lN)
  rw [e9] at lN
  have h51 : (ks ++ [k]).length ≤ 50 := by simp; omega
  have hpos : (((ks ++ [k]).length : Nat) : Int) - 1 = (ks.length : Int) := by simp
  have hg2 : ∀ k' ∈ ks ++ [k], KeyAt pool (.ref (g k')) k' := fun k' hk' => by
    rcases List.mem_append.mp hk' with h | h
    · exact hg k' h
    · rw [List.mem_singleton.mp h]; exact hk
  have hn2 : (ks ++ [k])[ks.length]? = some k := by simp
  have hd2 : ∀ i k', i < ks.length → (ks ++ [k])[i]? = some k' → k' ≠ k := fun i k' hi hik e => by
    rw [List.getElem?_append_left hi] at hik
    exact hnk (e ▸ List.mem_of_getElem? hik)
  walk_at "call builtin:len"
  k_steps
  rw [hpos]
  walk_at "call ref"
  k_steps
  exact ⟨rfl, _, fun _ h => h⟩
theorem walk2 (hg : ∀ k ∈ ks, KeyAt pool (.ref (g k)) k) (hk : KeyAt pool (.ref (g k)) k) (hlen : ks.length ≤ 40) (hpl : ∀ p ∈ pool, p.1 ≠ l) (hnk : k ∉ ks) : CtrTo w 193 [.ref l, .ref (g k)] [] 5 60 ((l, W.listOf (hl g ks).toArray n) :: pool) (HeapNow l pool g (sdGo k (ks.length + 1) (ks ++ [k]) ks.length))  epsC.2 (entP entC) := by with_unfolding_all exact walk hg hk hlen hpl hnk
theorem fin : epsP epsC := by
  with_unfolding_all exact fun hg hk hlen hpl hnk cxB cxF cxX cxN cxT cxk cxd cxu cxr => ent.2 hg hk hlen hpl hnk ⟨fun x0 x1 x2 => of_worst (P := entP) (h := entN) (by with_unfolding_all exact walk2 hg hk hlen hpl hnk cxB cxF cxX cxN cxT cxk cxd cxu cxr) (x0, x1, x2)⟩ cxB cxF cxX cxN cxT cxk cxd cxu cxr
end E_push_spec
theorem push_spec (w : World) (l : Addr) (ks : List Nat) (g : Nat → Addr) (n k : Nat) (pool : Led) (hg : ∀ k ∈ ks, KeyAt pool (.ref (g k)) k) (hk : KeyAt pool (.ref (g k)) k) (hlen : ks.length ≤ 40) (hpl : ∀ p ∈ pool, p.1 ≠ l) (hnk : k ∉ ks) : Ctr w 193 [.ref l, .ref (g k)] [] 5 60 ((l, W.listOf (hl g ks).toArray n) :: pool) (HeapNow l pool g (sdGo k (ks.length + 1) (ks ++ [k]) ks.length)) := ctr_of fun c9 => of_worst (P := E_push_spec.epsP) (h := E_push_spec.epsN) (by with_unfolding_all exact E_push_spec.fin) ((w, l, ks, g, n, k, pool), c9) hg hk hlen hpl hnk
local macro_rules | `(tactic| walk_at "call builtin:list.pop") => `(tactic| k_extra "mv21")
theorem pop1_spec (w : World) (l : Addr) (g : Nat → Addr) (n last : Nat) (pool : Led) (hpl : ∀ p ∈ pool, p.1 ≠ l) :
    Ctr w 200 [.ref l] [] 7 80 ((l, W.listOf (hl g ([] ++ [last])).toArray n) :: pool) (HeapPop l pool g [] last) := by
  (intro _ _ _ _ _ _ _ _ _ _ _ _ _ _ _ _ _ _ _ _ _ _ _ _ _ _ _ _ _ _ _; ((refine wpAny_call ?_; k_dflt (refine' code_defG ?z17k1 ?z17k2 ?z17k3 ?z17k4 ?z17k5 ?z17kA ?z17kF ?z17kK ?z17k6 ?z17k7 ?z17k8 ?z17k9 ?z17kB ?_ ?z17c2 ?z17c3 ?z17c4 ?z17c5; (case z17kA => exact rfl); (case z17kF => exact rfl); (case z17kK => assumption); (case z17k1 => k_asm); (case z17k2 => k_asm); (case z17k3 => k_asm); (case z17k4 => k_asm); (case z17k5 => k_asm); (case z17k6 => k_is); (case z17k7 => k_is); (case z17k8 => ktr_room); (case z17k9 => first | exact BindsTo.of_eq rfl | exact binds_K (by k_in) rfl (by k_is) rfl rfl rfl | fail "mine enter: no rule for these arguments"); (case z17c5 => decide); (case z17kB => exact locs rfl); (case z17c2 => exact rfl); (case z17c3 => exact rfl); (case z17c4 => exact rfl); k_whole))); intro _ _ _; walk_at "mine pure1")
  have hl50 : ([] : List Nat).length ≤ 50 := by decide
  k_steps
  · exact ⟨rfl, _, fun _ h => h⟩
  · exact nomatch (by assumption : (hl g []).isEmpty = false)
theorem pop_spec (w : World) (l : Addr) (ks : List Nat) (g : Nat → Addr) (n top last : Nat) (pool : Led) (hg : ∀ k ∈ top :: ks ++ [last], KeyAt pool (.ref (g k)) k) (hlen : ks.length ≤ 40) (hpl : ∀ p ∈ pool, p.1 ≠ l) (hnd : (top :: ks ++ [last]).Nodup) :
    Ctr w 200 [.ref l] [] 7 80 ((l, W.listOf (hl g (top :: ks ++ [last])).toArray n) :: pool) (HeapPop l pool g (su last (last :: ks)) top) := by
  (intro _ _ _ _ _ _ _ _ _ _ _ _ _ _ _ _ _ _ _ _ _ _ _ _ _ _ _ _ _ _ _; ((refine wpAny_call ?_; k_dflt (refine' code_defG ?z18k1 ?z18k2 ?z18k3 ?z18k4 ?z18k5 ?z18kA ?z18kF ?z18kK ?z18k6 ?z18k7 ?z18k8 ?z18k9 ?z18kB ?_ ?z18c2 ?z18c3 ?z18c4 ?z18c5; (case z18kA => exact rfl); (case z18kF => exact rfl); (case z18kK => assumption); (case z18k1 => k_asm); (case z18k2 => k_asm); (case z18k3 => k_asm); (case z18k4 => k_asm); (case z18k5 => k_asm); (case z18k6 => k_is); (case z18k7 => k_is); (case z18k8 => ktr_room); (case z18k9 => first | exact BindsTo.of_eq rfl | exact binds_K (by k_in) rfl (by k_is) rfl rfl rfl | fail "mine enter: no rule for these arguments"); (case z18c5 => decide); (case z18kB => exact locs rfl); (case z18c2 => exact rfl); (case z18c3 => exact rfl); (case z18c4 => exact rfl); k_whole))); intro _ _ _; walk_at "mine pure1")
  have hl50 : (top :: ks).length ≤ 50 := by simp; omega
  have hnd2 : (last :: ks).Nodup := by
    rw [List.cons_append, List.nodup_cons, List.nodup_append] at hnd
    rw [List.nodup_cons]
    exact ⟨fun h => hnd.2.2.2 last h last (by simp) rfl, hnd.2.1⟩
  have hg2 : ∀ k ∈ last :: ks, KeyAt pool (.ref (g k)) k := fun k hk => hg k (by
    rcases List.mem_cons.mp hk with rfl | h
    · simp
    · simp [h])
  k_steps
  · exact nomatch (by assumption : (hl g (top :: ks)).isEmpty = true)
  · refine use_led (su_spec w l _ (last :: ks) g (n + 1) last pool hg2 (by simp; omega) hpl rfl hnd2) (by k_asm) (by k_asm) (by k_asm) (by assumption) (by k_asm) (by first | assumption | exact rfl) (by ktr_room) (by ktr_units) ?_
    intro v' h' tk' n9 F' N8 hP'
    obtain ⟨hv', n8, hs8⟩ := hP'
    subst hv'
    have N' := News.sub N8 hs8
    clear hs8 N8
    dsimp only
    k_steps
    have hB := (by assumption : Back _ _ _ _ _ _ _)
    have hG := (by assumption : GSub _ _ _)
    exact hB _ _ _ _ (by assumption) (by assumption) (fun b o e n9 => F'.keep b o (hG b o e n9)) ⟨rfl, _, fun _ h => h⟩
end
end
end
end
end
end
end
end
end
end
end
end
end
theorem sweepP1a {M : Model} {A : Around} {env : Env} {Q : Flow → Shared → Prop} {E : Value → Shared → Prop} {s : Shared} (h : wpAny M A (execs [] env) Q E s) : wpAny M A (execs [] env) Q E s := by w_top off; first | (walk1; fail "swept") | exact h
section
local macro_rules | `(tactic| walk_at "LeaveK") => `(tactic| k_extra "mv1")
theorem sweepP1 {M : Model} {A : Around} {env : Env} {Q : Flow → Shared → Prop} {E : Value → Shared → Prop} {s : Shared} (h : wpAny M A (execs [] env) Q E s) : wpAny M A (execs [] env) Q E s := by w_top off; first | (walk1; fail "swept") | exact h
section
noncomputable def hourStr (h : Int) : Str := Txt.item (Str.ofString "0123456789") (h.fdiv 10) ++ Txt.item (Str.ofString "0123456789") (h.fmod 10)
namespace E_hour_spec
noncomputable def epsP (q : (World × Int × Tok) × Cx) : Prop := (fun (w : World) (x : Int) (t : Tok) (cx9 : Cx) => ∀ (h0 : 0 ≤ x) (h1 : x < 100), CtrAt w 303 [.int x t] [] 1 8 [] (IsStr (hourStr x))  cx9) q.1.1 q.1.2.1 q.1.2.2 q.2
theorem epsN : Nonempty ((World × Int × Tok) × Cx) := ⟨((Classical.choice neWorld, default, default), Classical.choice neCx)⟩
@[irreducible] noncomputable def epsC : (World × Int × Tok) × Cx := worst epsN epsP
@[irreducible] noncomputable def w : World := epsC.1.1
@[irreducible] noncomputable def x : Int := epsC.1.2.1
@[irreducible] noncomputable def t : Tok := epsC.1.2.2
noncomputable def ent : (TT9 : Heap → Addr → Heap → Prop) ×' (∀ (h0 : 0 ≤ x) (h1 : x < 100), Hid (∀ x0 x1 x2, TT9 x0 x1 x2) → CtrAt w 303 [.int x t] [] 1 8 [] (IsStr (hourStr x))  epsC.2) :=
  ⟨_, fun h0 h1 H => by
    intro cxB cxF cxX cxN cxT cxk cxd cxu cxr
    ((refine wpAny_call ?_; k_dflt (refine' code_defG ?z19k1 ?z19k2 ?z19k3 ?z19k4 ?z19k5 ?z19kA ?z19kF ?z19kK ?z19k6 ?z19k7 ?z19k8 ?z19k9 ?z19kB ?_ ?z19c2 ?z19c3 ?z19c4 ?z19c5; (case z19kA => exact rfl); (case z19kF => exact rfl); (case z19kK => assumption); (case z19k1 => k_asm); (case z19k2 => k_asm); (case z19k3 => k_asm); (case z19k4 => k_asm); (case z19k5 => k_asm); (case z19k6 => k_is); (case z19k7 => k_is); (case z19k8 => ktr_room); (case z19k9 => first | exact BindsTo.of_eq rfl | exact binds_K (by k_in) rfl (by k_is) rfl rfl rfl | fail "mine enter: no rule for these arguments"); (case z19c5 => decide); (case z19kB => exact locs rfl); (case z19c2 => exact rfl); (case z19c3 => exact rfl); (case z19c4 => exact rfl); k_whole)))
    exact H.out⟩
theorem entN : Nonempty (Heap × Addr × Heap) := ⟨(default, 0, default)⟩
noncomputable def entP (q : Heap × Addr × Heap) : Prop := ent.1 q.1 q.2.1 q.2.2
@[irreducible] noncomputable def entC : Heap × Addr × Heap := worst entN entP
@[irreducible] noncomputable def gE : Heap := entC.1
@[irreducible] noncomputable def LE : Addr := entC.2.1
@[irreducible] noncomputable def hE : Heap := entC.2.2
theorem walk (h0 : 0 ≤ x) (h1 : x < 100) : CtrTo w 303 [.int x t] [] 1 8 [] (IsStr (hourStr x))  epsC.2 (ent.1 gE LE hE) := by
  (intro cxB cxF cxX cxN cxT cxk cxd cxu cxr); walk_at "mine pure1"
  k_steps
  exact IsStr.mk rfl
theorem walk2 (h0 : 0 ≤ x) (h1 : x < 100) : CtrTo w 303 [.int x t] [] 1 8 [] (IsStr (hourStr x))  epsC.2 (entP entC) := by with_unfolding_all exact walk h0 h1
theorem fin : epsP epsC := by
  with_unfolding_all exact fun h0 h1 cxB cxF cxX cxN cxT cxk cxd cxu cxr => ent.2 h0 h1 ⟨fun x0 x1 x2 => of_worst (P := entP) (h := entN) (by with_unfolding_all exact walk2 h0 h1 cxB cxF cxX cxN cxT cxk cxd cxu cxr) (x0, x1, x2)⟩ cxB cxF cxX cxN cxT cxk cxd cxu cxr
end E_hour_spec
theorem hour_spec (w : World) (x : Int) (t : Tok) (h0 : 0 ≤ x) (h1 : x < 100) : Ctr w 303 [.int x t] [] 1 8 [] (IsStr (hourStr x)) := ctr_of fun c9 => of_worst (P := E_hour_spec.epsP) (h := E_hour_spec.epsN) (by with_unfolding_all exact E_hour_spec.fin) ((w, x, t), c9) h0 h1
namespace E_sifmt_spec
noncomputable def epsP (q : (World × Int × Tok) × Cx) : Prop := (fun (w : World) (x : Int) (t : Tok) (cx9 : Cx) => CtrAt w 221 [.int x t] [] 1 8 [] (IsInt (Builtin.bitAnd x 61440))  cx9) q.1.1 q.1.2.1 q.1.2.2 q.2
theorem epsN : Nonempty ((World × Int × Tok) × Cx) := ⟨((Classical.choice neWorld, default, default), Classical.choice neCx)⟩
@[irreducible] noncomputable def epsC : (World × Int × Tok) × Cx := worst epsN epsP
@[irreducible] noncomputable def w : World := epsC.1.1
@[irreducible] noncomputable def x : Int := epsC.1.2.1
@[irreducible] noncomputable def t : Tok := epsC.1.2.2
noncomputable def ent : (TT9 : Heap → Addr → Heap → Prop) ×' (Hid (∀ x0 x1 x2, TT9 x0 x1 x2) → CtrAt w 221 [.int x t] [] 1 8 [] (IsInt (Builtin.bitAnd x 61440))  epsC.2) :=
  ⟨_, fun  H => by
    intro cxB cxF cxX cxN cxT cxk cxd cxu cxr
    ((refine wpAny_call ?_; k_dflt (refine' code_defG ?z20k1 ?z20k2 ?z20k3 ?z20k4 ?z20k5 ?z20kA ?z20kF ?z20kK ?z20k6 ?z20k7 ?z20k8 ?z20k9 ?z20kB ?_ ?z20c2 ?z20c3 ?z20c4 ?z20c5; (case z20kA => exact rfl); (case z20kF => exact rfl); (case z20kK => assumption); (case z20k1 => k_asm); (case z20k2 => k_asm); (case z20k3 => k_asm); (case z20k4 => k_asm); (case z20k5 => k_asm); (case z20k6 => k_is); (case z20k7 => k_is); (case z20k8 => ktr_room); (case z20k9 => first | exact BindsTo.of_eq rfl | exact binds_K (by k_in) rfl (by k_is) rfl rfl rfl | fail "mine enter: no rule for these arguments"); (case z20c5 => decide); (case z20kB => exact locs rfl); (case z20c2 => exact rfl); (case z20c3 => exact rfl); (case z20c4 => exact rfl); k_whole)))
    exact H.out⟩
theorem entN : Nonempty (Heap × Addr × Heap) := ⟨(default, 0, default)⟩
noncomputable def entP (q : Heap × Addr × Heap) : Prop := ent.1 q.1 q.2.1 q.2.2
@[irreducible] noncomputable def entC : Heap × Addr × Heap := worst entN entP
@[irreducible] noncomputable def gE : Heap := entC.1
@[irreducible] noncomputable def LE : Addr := entC.2.1
@[irreducible] noncomputable def hE : Heap := entC.2.2
theorem walk  : CtrTo w 221 [.int x t] [] 1 8 [] (IsInt (Builtin.bitAnd x 61440))  epsC.2 (ent.1 gE LE hE) := by
  (intro cxB cxF cxX cxN cxT cxk cxd cxu cxr); walk_at "mine pure1"
  k_steps
  exact IsInt.mk rfl
theorem walk2  : CtrTo w 221 [.int x t] [] 1 8 [] (IsInt (Builtin.bitAnd x 61440))  epsC.2 (entP entC) := by with_unfolding_all exact walk 
theorem fin : epsP epsC := by
  with_unfolding_all exact fun  cxB cxF cxX cxN cxT cxk cxd cxu cxr => ent.2  ⟨fun x0 x1 x2 => of_worst (P := entP) (h := entN) (by with_unfolding_all exact walk2  cxB cxF cxX cxN cxT cxk cxd cxu cxr) (x0, x1, x2)⟩ cxB cxF cxX cxN cxT cxk cxd cxu cxr
end E_sifmt_spec
theorem sifmt_spec (w : World) (x : Int) (t : Tok) : Ctr w 221 [.int x t] [] 1 8 [] (IsInt (Builtin.bitAnd x 61440)) := ctr_of fun c9 => of_worst (P := E_sifmt_spec.epsP) (h := E_sifmt_spec.epsN) (by with_unfolding_all exact E_sifmt_spec.fin) ((w, x, t), c9) 
local macro_rules | `(tactic| walk_at "call ref") => `(tactic| k_extra "mv22")
namespace E_isdir_spec
noncomputable def epsP (q : (World × Int × Tok) × Cx) : Prop := (fun (w : World) (x : Int) (t : Tok) (cx9 : Cx) => CtrAt w 228 [.int x t] [] 2 16 [] (IsBool (Builtin.bitAnd x 61440 == 16384))  cx9) q.1.1 q.1.2.1 q.1.2.2 q.2
theorem epsN : Nonempty ((World × Int × Tok) × Cx) := ⟨((Classical.choice neWorld, default, default), Classical.choice neCx)⟩
@[irreducible] noncomputable def epsC : (World × Int × Tok) × Cx := worst epsN epsP
@[irreducible] noncomputable def w : World := epsC.1.1
@[irreducible] noncomputable def x : Int := epsC.1.2.1
@[irreducible] noncomputable def t : Tok := epsC.1.2.2
noncomputable def ent : (TT9 : Heap → Addr → Heap → Prop) ×' (Hid (∀ x0 x1 x2, TT9 x0 x1 x2) → CtrAt w 228 [.int x t] [] 2 16 [] (IsBool (Builtin.bitAnd x 61440 == 16384))  epsC.2) :=
  ⟨_, fun  H => by
    intro cxB cxF cxX cxN cxT cxk cxd cxu cxr
    ((refine wpAny_call ?_; k_dflt (refine' code_defG ?z21k1 ?z21k2 ?z21k3 ?z21k4 ?z21k5 ?z21kA ?z21kF ?z21kK ?z21k6 ?z21k7 ?z21k8 ?z21k9 ?z21kB ?_ ?z21c2 ?z21c3 ?z21c4 ?z21c5; (case z21kA => exact rfl); (case z21kF => exact rfl); (case z21kK => assumption); (case z21k1 => k_asm); (case z21k2 => k_asm); (case z21k3 => k_asm); (case z21k4 => k_asm); (case z21k5 => k_asm); (case z21k6 => k_is); (case z21k7 => k_is); (case z21k8 => ktr_room); (case z21k9 => first | exact BindsTo.of_eq rfl | exact binds_K (by k_in) rfl (by k_is) rfl rfl rfl | fail "mine enter: no rule for these arguments"); (case z21c5 => decide); (case z21kB => exact locs rfl); (case z21c2 => exact rfl); (case z21c3 => exact rfl); (case z21c4 => exact rfl); k_whole)))
    exact H.out⟩
theorem entN : Nonempty (Heap × Addr × Heap) := ⟨(default, 0, default)⟩
noncomputable def entP (q : Heap × Addr × Heap) : Prop := ent.1 q.1 q.2.1 q.2.2
@[irreducible] noncomputable def entC : Heap × Addr × Heap := worst entN entP
@[irreducible] noncomputable def gE : Heap := entC.1
@[irreducible] noncomputable def LE : Addr := entC.2.1
@[irreducible] noncomputable def hE : Heap := entC.2.2
theorem walk  : CtrTo w 228 [.int x t] [] 2 16 [] (IsBool (Builtin.bitAnd x 61440 == 16384))  epsC.2 (ent.1 gE LE hE) := by
  (intro cxB cxF cxX cxN cxT cxk cxd cxu cxr); walk_at "mine pure1"
  k_steps
  exact IsBool.mk rfl
theorem walk2  : CtrTo w 228 [.int x t] [] 2 16 [] (IsBool (Builtin.bitAnd x 61440 == 16384))  epsC.2 (entP entC) := by with_unfolding_all exact walk 
theorem fin : epsP epsC := by
  with_unfolding_all exact fun  cxB cxF cxX cxN cxT cxk cxd cxu cxr => ent.2  ⟨fun x0 x1 x2 => of_worst (P := entP) (h := entN) (by with_unfolding_all exact walk2  cxB cxF cxX cxN cxT cxk cxd cxu cxr) (x0, x1, x2)⟩ cxB cxF cxX cxN cxT cxk cxd cxu cxr
end E_isdir_spec
theorem isdir_spec (w : World) (x : Int) (t : Tok) : Ctr w 228 [.int x t] [] 2 16 [] (IsBool (Builtin.bitAnd x 61440 == 16384)) := ctr_of fun c9 => of_worst (P := E_isdir_spec.epsP) (h := E_isdir_spec.epsN) (by with_unfolding_all exact E_isdir_spec.fin) ((w, x, t), c9) 
namespace E_isreg_spec
noncomputable def epsP (q : (World × Int × Tok) × Cx) : Prop := (fun (w : World) (x : Int) (t : Tok) (cx9 : Cx) => CtrAt w 235 [.int x t] [] 2 16 [] (IsBool (Builtin.bitAnd x 61440 == 32768))  cx9) q.1.1 q.1.2.1 q.1.2.2 q.2
theorem epsN : Nonempty ((World × Int × Tok) × Cx) := ⟨((Classical.choice neWorld, default, default), Classical.choice neCx)⟩
@[irreducible] noncomputable def epsC : (World × Int × Tok) × Cx := worst epsN epsP
@[irreducible] noncomputable def w : World := epsC.1.1
@[irreducible] noncomputable def x : Int := epsC.1.2.1
@[irreducible] noncomputable def t : Tok := epsC.1.2.2
noncomputable def ent : (TT9 : Heap → Addr → Heap → Prop) ×' (Hid (∀ x0 x1 x2, TT9 x0 x1 x2) → CtrAt w 235 [.int x t] [] 2 16 [] (IsBool (Builtin.bitAnd x 61440 == 32768))  epsC.2) :=
  ⟨_, fun  H => by
    intro cxB cxF cxX cxN cxT cxk cxd cxu cxr
    ((refine wpAny_call ?_; k_dflt (refine' code_defG ?z22k1 ?z22k2 ?z22k3 ?z22k4 ?z22k5 ?z22kA ?z22kF ?z22kK ?z22k6 ?z22k7 ?z22k8 ?z22k9 ?z22kB ?_ ?z22c2 ?z22c3 ?z22c4 ?z22c5; (case z22kA => exact rfl); (case z22kF => exact rfl); (case z22kK => assumption); (case z22k1 => k_asm); (case z22k2 => k_asm); (case z22k3 => k_asm); (case z22k4 => k_asm); (case z22k5 => k_asm); (case z22k6 => k_is); (case z22k7 => k_is); (case z22k8 => ktr_room); (case z22k9 => first | exact BindsTo.of_eq rfl | exact binds_K (by k_in) rfl (by k_is) rfl rfl rfl | fail "mine enter: no rule for these arguments"); (case z22c5 => decide); (case z22kB => exact locs rfl); (case z22c2 => exact rfl); (case z22c3 => exact rfl); (case z22c4 => exact rfl); k_whole)))
    exact H.out⟩
theorem entN : Nonempty (Heap × Addr × Heap) := ⟨(default, 0, default)⟩
noncomputable def entP (q : Heap × Addr × Heap) : Prop := ent.1 q.1 q.2.1 q.2.2
@[irreducible] noncomputable def entC : Heap × Addr × Heap := worst entN entP
@[irreducible] noncomputable def gE : Heap := entC.1
@[irreducible] noncomputable def LE : Addr := entC.2.1
@[irreducible] noncomputable def hE : Heap := entC.2.2
theorem walk  : CtrTo w 235 [.int x t] [] 2 16 [] (IsBool (Builtin.bitAnd x 61440 == 32768))  epsC.2 (ent.1 gE LE hE) := by
  (intro cxB cxF cxX cxN cxT cxk cxd cxu cxr); walk_at "mine pure1"
  k_steps
  exact IsBool.mk rfl
theorem walk2  : CtrTo w 235 [.int x t] [] 2 16 [] (IsBool (Builtin.bitAnd x 61440 == 32768))  epsC.2 (entP entC) := by with_unfolding_all exact walk 
theorem fin : epsP epsC := by
  with_unfolding_all exact fun  cxB cxF cxX cxN cxT cxk cxd cxu cxr => ent.2  ⟨fun x0 x1 x2 => of_worst (P := entP) (h := entN) (by with_unfolding_all exact walk2  cxB cxF cxX cxN cxT cxk cxd cxu cxr) (x0, x1, x2)⟩ cxB cxF cxX cxN cxT cxk cxd cxu cxr
end E_isreg_spec
theorem isreg_spec (w : World) (x : Int) (t : Tok) : Ctr w 235 [.int x t] [] 2 16 [] (IsBool (Builtin.bitAnd x 61440 == 32768)) := ctr_of fun c9 => of_worst (P := E_isreg_spec.epsP) (h := E_isreg_spec.epsN) (by with_unfolding_all exact E_isreg_spec.fin) ((w, x, t), c9) 
namespace E_islnk_spec
noncomputable def epsP (q : (World × Int × Tok) × Cx) : Prop := (fun (w : World) (x : Int) (t : Tok) (cx9 : Cx) => CtrAt w 242 [.int x t] [] 2 16 [] (IsBool (Builtin.bitAnd x 61440 == 40960))  cx9) q.1.1 q.1.2.1 q.1.2.2 q.2
theorem epsN : Nonempty ((World × Int × Tok) × Cx) := ⟨((Classical.choice neWorld, default, default), Classical.choice neCx)⟩
@[irreducible] noncomputable def epsC : (World × Int × Tok) × Cx := worst epsN epsP
@[irreducible] noncomputable def w : World := epsC.1.1
@[irreducible] noncomputable def x : Int := epsC.1.2.1
@[irreducible] noncomputable def t : Tok := epsC.1.2.2
noncomputable def ent : (TT9 : Heap → Addr → Heap → Prop) ×' (Hid (∀ x0 x1 x2, TT9 x0 x1 x2) → CtrAt w 242 [.int x t] [] 2 16 [] (IsBool (Builtin.bitAnd x 61440 == 40960))  epsC.2) :=
  ⟨_, fun  H => by
    intro cxB cxF cxX cxN cxT cxk cxd cxu cxr
    ((refine wpAny_call ?_; k_dflt (refine' code_defG ?z23k1 ?z23k2 ?z23k3 ?z23k4 ?z23k5 ?z23kA ?z23kF ?z23kK ?z23k6 ?z23k7 ?z23k8 ?z23k9 ?z23kB ?_ ?z23c2 ?z23c3 ?z23c4 ?z23c5; (case z23kA => exact rfl); (case z23kF => exact rfl); (case z23kK => assumption); (case z23k1 => k_asm); (case z23k2 => k_asm); (case z23k3 => k_asm); (case z23k4 => k_asm); (case z23k5 => k_asm); (case z23k6 => k_is); (case z23k7 => k_is); (case z23k8 => ktr_room); (case z23k9 => first | exact BindsTo.of_eq rfl | exact binds_K (by k_in) rfl (by k_is) rfl rfl rfl | fail "mine enter: no rule for these arguments"); (case z23c5 => decide); (case z23kB => exact locs rfl); (case z23c2 => exact rfl); (case z23c3 => exact rfl); (case z23c4 => exact rfl); k_whole)))
    exact H.out⟩
theorem entN : Nonempty (Heap × Addr × Heap) := ⟨(default, 0, default)⟩
noncomputable def entP (q : Heap × Addr × Heap) : Prop := ent.1 q.1 q.2.1 q.2.2
@[irreducible] noncomputable def entC : Heap × Addr × Heap := worst entN entP
@[irreducible] noncomputable def gE : Heap := entC.1
@[irreducible] noncomputable def LE : Addr := entC.2.1
@[irreducible] noncomputable def hE : Heap := entC.2.2
theorem walk  : CtrTo w 242 [.int x t] [] 2 16 [] (IsBool (Builtin.bitAnd x 61440 == 40960))  epsC.2 (ent.1 gE LE hE) := by
  (intro cxB cxF cxX cxN cxT cxk cxd cxu cxr); walk_at "mine pure1"
  k_steps
  exact IsBool.mk rfl
theorem walk2  : CtrTo w 242 [.int x t] [] 2 16 [] (IsBool (Builtin.bitAnd x 61440 == 40960))  epsC.2 (entP entC) := by with_unfolding_all exact walk 
theorem fin : epsP epsC := by
  with_unfolding_all exact fun  cxB cxF cxX cxN cxT cxk cxd cxu cxr => ent.2  ⟨fun x0 x1 x2 => of_worst (P := entP) (h := entN) (by with_unfolding_all exact walk2  cxB cxF cxX cxN cxT cxk cxd cxu cxr) (x0, x1, x2)⟩ cxB cxF cxX cxN cxT cxk cxd cxu cxr
end E_islnk_spec
theorem islnk_spec (w : World) (x : Int) (t : Tok) : Ctr w 242 [.int x t] [] 2 16 [] (IsBool (Builtin.bitAnd x 61440 == 40960)) := ctr_of fun c9 => of_worst (P := E_islnk_spec.epsP) (h := E_islnk_spec.epsN) (by with_unfolding_all exact E_islnk_spec.fin) ((w, x, t), c9) 
end
theorem sweepP5a {M : Model} {A : Around} {env : Env} {Q : Flow → Shared → Prop} {E : Value → Shared → Prop} {s : Shared} (h : wpAny M A (execs [] env) Q E s) : wpAny M A (execs [] env) Q E s := by w_top off; first | (walk1; fail "swept") | exact h
section
local macro_rules | `(tactic| walk_at "execs nil") => `(tactic| k_extra "mv4")
section
local macro_rules | `(tactic| walk_at "execs cons") => `(tactic| k_extra "mv4")
section
local macro_rules | `(tactic| walk_at "call builtin:str.replace") => `(tactic| (k_dflt (refine replace_no (by assumption) ?_); (try dsimp only)))
theorem sweepP5 {M : Model} {A : Around} {env : Env} {Q : Flow → Shared → Prop} {E : Value → Shared → Prop} {s : Shared} (h : wpAny M A (execs [] env) Q E s) : wpAny M A (execs [] env) Q E s := by w_top off; first | (walk1; fail "swept") | exact h
section
theorem fd (a : Int) {b : Int} (h : 0 ≤ b) : a.fdiv b = a / b := Int.fdiv_eq_ediv_of_nonneg a h
theorem fm (a : Int) {b : Int} (h : 0 ≤ b) : a.fmod b = a % b := Int.fmod_eq_emod_of_nonneg a h
local macro_rules | `(tactic| walk_at "subscriptTail") => `(tactic| k_extra "mv23")
noncomputable def writtenStr (x : Int) : Str :=
  Txt.item (Str.ofString "?pc?d?b?-?l?s???") (x.fdiv 4096) ++ Txt.item (Str.ofString "-r") (((x.fdiv 64).fdiv 4).fmod 2) ++ Txt.item (Str.ofString "-w") (((x.fdiv 64).fdiv 2).fmod 2) ++ Txt.item (Str.ofString "-xSs") ((x.fdiv 64).fmod 2 + 2 * (x.fdiv 2048).fmod 2) ++
    Txt.item (Str.ofString "-r") (((x.fdiv 8).fdiv 4).fmod 2) ++ Txt.item (Str.ofString "-w") (((x.fdiv 8).fdiv 2).fmod 2) ++ Txt.item (Str.ofString "-xSs") ((x.fdiv 8).fmod 2 + 2 * (x.fdiv 1024).fmod 2) ++
    Txt.item (Str.ofString "-r") (((x.fdiv 1).fdiv 4).fmod 2) ++ Txt.item (Str.ofString "-w") (((x.fdiv 1).fdiv 2).fmod 2) ++ Txt.item (Str.ofString "-xTt") ((x.fdiv 1).fmod 2 + 2 * (x.fdiv 512).fmod 2)
namespace E_written_spec
noncomputable def epsP (q : (World × Int × Tok) × Cx) : Prop := (fun (w : World) (x : Int) (t : Tok) (cx9 : Cx) => ∀ (h0 : 0 ≤ x) (h1 : x < 65536), CtrAt w 296 [.int x t] [] 1 16 [] (IsStr (writtenStr x))  cx9) q.1.1 q.1.2.1 q.1.2.2 q.2
theorem epsN : Nonempty ((World × Int × Tok) × Cx) := ⟨((Classical.choice neWorld, default, default), Classical.choice neCx)⟩
@[irreducible] noncomputable def epsC : (World × Int × Tok) × Cx := worst epsN epsP
@[irreducible] noncomputable def w : World := epsC.1.1
@[irreducible] noncomputable def x : Int := epsC.1.2.1
@[irreducible] noncomputable def t : Tok := epsC.1.2.2
noncomputable def ent : (TT9 : Heap → Addr → Heap → Prop) ×' (∀ (h0 : 0 ≤ x) (h1 : x < 65536), Hid (∀ x0 x1 x2, TT9 x0 x1 x2) → CtrAt w 296 [.int x t] [] 1 16 [] (IsStr (writtenStr x))  epsC.2) :=
  ⟨_, fun h0 h1 H => by
    intro cxB cxF cxX cxN cxT cxk cxd cxu cxr
    ((refine wpAny_call ?_; k_dflt (refine' code_defG ?z24k1 ?z24k2 ?z24k3 ?z24k4 ?z24k5 ?z24kA ?z24kF ?z24kK ?z24k6 ?z24k7 ?z24k8 ?z24k9 ?z24kB ?_ ?z24c2 ?z24c3 ?z24c4 ?z24c5; (case z24kA => exact rfl); (case z24kF => exact rfl); (case z24kK => assumption); (case z24k1 => k_asm); (case z24k2 => k_asm); (case z24k3 => k_asm); (case z24k4 => k_asm); (case z24k5 => k_asm); (case z24k6 => k_is); (case z24k7 => k_is); (case z24k8 => ktr_room); (case z24k9 => first | exact BindsTo.of_eq rfl | exact binds_K (by k_in) rfl (by k_is) rfl rfl rfl | fail "mine enter: no rule for these arguments"); (case z24c5 => decide); (case z24kB => exact locs rfl); (case z24c2 => exact rfl); (case z24c3 => exact rfl); (case z24c4 => exact rfl); k_whole)))
    exact H.out⟩
theorem entN : Nonempty (Heap × Addr × Heap) := ⟨(default, 0, default)⟩
noncomputable def entP (q : Heap × Addr × Heap) : Prop := ent.1 q.1 q.2.1 q.2.2
@[irreducible] noncomputable def entC : Heap × Addr × Heap := worst entN entP
@[irreducible] noncomputable def gE : Heap := entC.1
@[irreducible] noncomputable def LE : Addr := entC.2.1
@[irreducible] noncomputable def hE : Heap := entC.2.2
theorem walk (h0 : 0 ≤ x) (h1 : x < 65536) : CtrTo w 296 [.int x t] [] 1 16 [] (IsStr (writtenStr x))  epsC.2 (ent.1 gE LE hE) := by
  (intro cxB cxF cxX cxN cxT cxk cxd cxu cxr); walk_at "mine pure1"
  k_steps
  exact IsStr.mk rfl
theorem walk2 (h0 : 0 ≤ x) (h1 : x < 65536) : CtrTo w 296 [.int x t] [] 1 16 [] (IsStr (writtenStr x))  epsC.2 (entP entC) := by with_unfolding_all exact walk h0 h1
theorem fin : epsP epsC := by
  with_unfolding_all exact fun h0 h1 cxB cxF cxX cxN cxT cxk cxd cxu cxr => ent.2 h0 h1 ⟨fun x0 x1 x2 => of_worst (P := entP) (h := entN) (by with_unfolding_all exact walk2 h0 h1 cxB cxF cxX cxN cxT cxk cxd cxu cxr) (x0, x1, x2)⟩ cxB cxF cxX cxN cxT cxk cxd cxu cxr
end E_written_spec
theorem written_spec (w : World) (x : Int) (t : Tok) (h0 : 0 ≤ x) (h1 : x < 65536) : Ctr w 296 [.int x t] [] 1 16 [] (IsStr (writtenStr x)) := ctr_of fun c9 => of_worst (P := E_written_spec.epsP) (h := E_written_spec.epsN) (by with_unfolding_all exact E_written_spec.fin) ((w, x, t), c9) h0 h1
end
end
end
end
end
theorem sweepP15a {M : Model} {A : Around} {env : Env} {Q : Flow → Shared → Prop} {E : Value → Shared → Prop} {s : Shared} (h : wpAny M A (execs [] env) Q E s) : wpAny M A (execs [] env) Q E s := by w_top off; first | (walk1; fail "swept") | exact h
section
open PyProof.Rows.LCg PyProof.Rows.LCt
local macro_rules | `(tactic| walk_at "call builtin:str.replace") => `(tactic| (k_dflt (refine replace_no (by first | assumption | decide +kernel) ?_); (try dsimp only)))
section
open PyProof.Rows.LCg PyProof.Rows.LCt
local macro_rules | `(tactic| walk_at "execs nil") => `(tactic| k_extra "mv4")
section
open PyProof.Rows.LCg PyProof.Rows.LCt
local macro_rules | `(tactic| walk_at "execs cons") => `(tactic| k_extra "mv4")
section
open PyProof.Rows.LCg PyProof.Rows.LCt
local macro_rules | `(tactic| walk_at "LeaveK") => `(tactic| k_extra "mv1")
local macro_rules | `(tactic| walk_at "LeaveK") => `(tactic| k_extra "mv6")
section
open PyProof.Rows.LCg PyProof.Rows.LCt
local macro_rules | `(tactic| walk_at "UnrEndW") => `(tactic| k_extra "mv7")
section
open PyProof.Rows.LCg PyProof.Rows.LCt
local macro_rules | `(tactic| k_all) => `(tactic| k_extra "mk1")
section
open PyProof.Rows.LCg PyProof.Rows.LCt
local macro_rules | `(tactic| walk_at "call ref") => `(tactic| k_extra "mv24")
local macro_rules | `(tactic| walk_at "call ref") => `(tactic| k_extra "mv25")
theorem sweepP15 {M : Model} {A : Around} {env : Env} {Q : Flow → Shared → Prop} {E : Value → Shared → Prop} {s : Shared} (h : wpAny M A (execs [] env) Q E s) : wpAny M A (execs [] env) Q E s := by w_top off; first | (walk1; fail "swept") | exact h
section
open PyProof.Rows.LCg PyProof.Rows.LCt
noncomputable def evObj (nm : Str) (held hr : Int) (t1 t2 t3 : Tok) : Obj := { cls := .type "tuple", data := .seq [Value.str nm t1, Value.int held t2, Value.int hr t3].toArray }
noncomputable def lineStr (held hr k : Int) : Str := writtenStr held ++ Str.ofString "; at=\"" ++ hourStr hr ++ Str.ofString "\"" ++ (if k.fmod 2 = 0 then Str.ofString "" else Str.ofString "; by-hand=\"x y\"")
/-- the post of a text, what was handed in still there -/
noncomputable def IsStrAt (x : Str) (cells : Led) (n : Led) (v : Value) : Prop := (∃ t, v = .str x t) ∧ ∀ p ∈ cells, p ∈ n
theorem IsStrAt.mk {x y : Str} {c n : Led} {t : Tok} (e : y = x) (h : ∀ p ∈ c, p ∈ n) : IsStrAt x c n (.str y t) := ⟨⟨t, by rw [e]⟩, h⟩
theorem linel_spec (w : World) (e : Addr) (nm : Str) (held hr k : Int) (t1 t2 t3 t4 : Tok) (h0 : 0 ≤ held) (h1 : held < 65536) (h2 : 0 ≤ hr) (h3 : hr < 100) (h4 : 0 ≤ k) (h5 : k < 100) (n9 : Nat) :
    Ctr w 317 [.ref e, .int k t4] [] 3 40 [(e, ({ cls := .type "tuple", data := .seq #[Value.str nm t1, Value.int held t2, Value.int hr t3] n9 } : Obj))] (IsStrAt (lineStr held hr k) [(e, ({ cls := .type "tuple", data := .seq #[Value.str nm t1, Value.int held t2, Value.int hr t3] n9 } : Obj))]) := by
  (intro _ _ _ _ _ _ _ _ _ _ _ _ _ _ _ _ _ _ _ _ _ _ _ _ _ _ _ _ _ _ _; ((refine wpAny_call ?_; k_dflt (refine' code_defG ?z25k1 ?z25k2 ?z25k3 ?z25k4 ?z25k5 ?z25kA ?z25kF ?z25kK ?z25k6 ?z25k7 ?z25k8 ?z25k9 ?z25kB ?_ ?z25c2 ?z25c3 ?z25c4 ?z25c5; (case z25kA => exact rfl); (case z25kF => exact rfl); (case z25kK => assumption); (case z25k1 => k_asm); (case z25k2 => k_asm); (case z25k3 => k_asm); (case z25k4 => k_asm); (case z25k5 => k_asm); (case z25k6 => k_is); (case z25k7 => k_is); (case z25k8 => ktr_room); (case z25k9 => first | exact BindsTo.of_eq rfl | exact binds_K (by k_in) rfl (by k_is) rfl rfl rfl | fail "mine enter: no rule for these arguments"); (case z25c5 => decide); (case z25kB => exact locs rfl); (case z25c2 => exact rfl); (case z25c3 => exact rfl); (case z25c4 => exact rfl); k_whole))); intro _ _ _; walk_at "mine pure1")
  k_steps
  · refine IsStrAt.mk ?_ fun _ h => List.mem_cons_of_mem _ h
    unfold lineStr
    rw [if_pos (by assumption)]
  · have hB := (by assumption : Back _ _ _ _ _ _ _)
    have hG := (by assumption : GSub _ _ _)
    refine hB _ _ _ _ (by assumption) (by assumption) (fun b o e n9 => (by assumption : Fr _ _ _ _).keep b o (hG b o e n9)) (IsStrAt.mk ?_ fun _ h => List.mem_cons_of_mem _ h)
    have e1 := (by assumption : k.fmod 2 = 1)
    unfold lineStr
    rw [if_neg (by omega)]
end
end
theorem sweepP10a {M : Model} {A : Around} {env : Env} {Q : Flow → Shared → Prop} {E : Value → Shared → Prop} {s : Shared} (h : wpAny M A (execs [] env) Q E s) : wpAny M A (execs [] env) Q E s := by w_top off; first | (walk1; fail "swept") | exact h
section
open PyProof.Rows.LCg PyProof.Rows.LCt
local macro_rules | `(tactic| walk_at "CompSrcT") => `(tactic| k_extra "mv12")
section
open PyProof.Rows.LCg PyProof.Rows.LCt
local macro_rules | `(tactic| walk_at "call ref") => `(tactic| k_extra "mv9")
local macro_rules | `(tactic| walk_at "call ref") => `(tactic| k_extra "mv10")
section
open PyProof.Rows.LCg PyProof.Rows.LCt
local macro_rules | `(tactic| walk_at "eval ListComp") => `(tactic| k_extra "mv11")
theorem sweepP10 {M : Model} {A : Around} {env : Env} {Q : Flow → Shared → Prop} {E : Value → Shared → Prop} {s : Shared} (h : wpAny M A (execs [] env) Q E s) : wpAny M A (execs [] env) Q E s := by w_top off; first | (walk1; fail "swept") | exact h
section
open PyProof.Rows.LCg PyProof.Rows.LCt
noncomputable def GotFirst (cells : Led) (dflt : Value) (o : Option (Str × Str)) (news' : Led) (v : Value) : Prop :=
  (match o with | some q => ∃ t, v = .str q.2 t | none => v = dflt) ∧ ∀ p ∈ cells, p ∈ news'
theorem got_first {nm : Str} {qs : List (Str × Str)} {i : Nat} {q : Str × Str} (hno : gotAll nm (qs.take i) = []) (hq : qs[i]? = some q) (h : (Txt.lower q.1 == Txt.lower nm) = true) : (gotAll nm qs).head? = some q := by
  have e : gotAll nm qs = gotAll nm (qs.take (i + 1)) ++ gotAll nm (qs.drop (i + 1)) := by unfold gotAll; rw [← List.filter_append, List.take_append_drop]
  rw [e, got_yes hq h, hno]
  rfl
namespace E_get_spec
noncomputable def epsP (q : (World × Addr × Addr × Addr × Tok × Tok × (List Value) × Nat × Str × (List (Str × Str)) × Led) × Cx) : Prop := (fun (w : World) (x : Addr) (dx : Addr) (l : Addr) (t : Tok) (t1 : Tok) (vs : List Value) (n : Nat) (nm : Str) (qs : List (Str × Str)) (pool : Led) (cx9 : Cx) => ∀ (hd : DatAll pool vs (qs.map pairD)) (hvs : vs.length ≤ 100) (hne : @Ne Nat l x ∧ @Ne Nat l dx ∧ @Ne Nat x dx) (hnm : Plain (Txt.lower nm)) (hnl : (Txt.lower nm).length ≤ 10) (hnl2 : nm.length ≤ 10) (hql : ∀ q ∈ qs, q.1.length ≤ 10), CtrAt w 129 [.ref x, .str nm t1] [] 3 40 ((l, W.listOf vs.toArray n) :: (x, instObj 182 dx) :: (dx, hDict w t l) :: pool) (GotFirst ((l, W.listOf vs.toArray n) :: (x, instObj 182 dx) :: (dx, hDict w t l) :: pool) .none (gotAll nm qs).head?)  cx9) q.1.1 q.1.2.1 q.1.2.2.1 q.1.2.2.2.1 q.1.2.2.2.2.1 q.1.2.2.2.2.2.1 q.1.2.2.2.2.2.2.1 q.1.2.2.2.2.2.2.2.1 q.1.2.2.2.2.2.2.2.2.1 q.1.2.2.2.2.2.2.2.2.2.1 q.1.2.2.2.2.2.2.2.2.2.2 q.2
theorem epsN : Nonempty ((World × Addr × Addr × Addr × Tok × Tok × (List Value) × Nat × Str × (List (Str × Str)) × Led) × Cx) := ⟨((Classical.choice neWorld, default, default, default, default, default, default, default, default, default, default), Classical.choice neCx)⟩
@[irreducible] noncomputable def epsC : (World × Addr × Addr × Addr × Tok × Tok × (List Value) × Nat × Str × (List (Str × Str)) × Led) × Cx := worst epsN epsP
@[irreducible] noncomputable def w : World := epsC.1.1
@[irreducible] noncomputable def x : Addr := epsC.1.2.1
@[irreducible] noncomputable def dx : Addr := epsC.1.2.2.1
@[irreducible] noncomputable def l : Addr := epsC.1.2.2.2.1
@[irreducible] noncomputable def t : Tok := epsC.1.2.2.2.2.1
@[irreducible] noncomputable def t1 : Tok := epsC.1.2.2.2.2.2.1
@[irreducible] noncomputable def vs : List Value := epsC.1.2.2.2.2.2.2.1
@[irreducible] noncomputable def n : Nat := epsC.1.2.2.2.2.2.2.2.1
@[irreducible] noncomputable def nm : Str := epsC.1.2.2.2.2.2.2.2.2.1
@[irreducible] noncomputable def qs : List (Str × Str) := epsC.1.2.2.2.2.2.2.2.2.2.1
@[irreducible] noncomputable def pool : Led := epsC.1.2.2.2.2.2.2.2.2.2.2
noncomputable def ent : (TT9 : Heap → Addr → Heap → Prop) ×' (∀ (hd : DatAll pool vs (qs.map pairD)) (hvs : vs.length ≤ 100) (hne : @Ne Nat l x ∧ @Ne Nat l dx ∧ @Ne Nat x dx) (hnm : Plain (Txt.lower nm)) (hnl : (Txt.lower nm).length ≤ 10) (hnl2 : nm.length ≤ 10) (hql : ∀ q ∈ qs, q.1.length ≤ 10), Hid (∀ x0 x1 x2, TT9 x0 x1 x2) → CtrAt w 129 [.ref x, .str nm t1] [] 3 40 ((l, W.listOf vs.toArray n) :: (x, instObj 182 dx) :: (dx, hDict w t l) :: pool) (GotFirst ((l, W.listOf vs.toArray n) :: (x, instObj 182 dx) :: (dx, hDict w t l) :: pool) .none (gotAll nm qs).head?)  epsC.2) :=
  ⟨_, fun hd hvs hne hnm hnl hnl2 hql H => by
    intro cxB cxF cxX cxN cxT cxk cxd cxu cxr
    ((refine wpAny_call ?_; k_dflt (refine' code_defG ?z26k1 ?z26k2 ?z26k3 ?z26k4 ?z26k5 ?z26kA ?z26kF ?z26kK ?z26k6 ?z26k7 ?z26k8 ?z26k9 ?z26kB ?_ ?z26c2 ?z26c3 ?z26c4 ?z26c5; (case z26kA => exact rfl); (case z26kF => exact rfl); (case z26kK => assumption); (case z26k1 => k_asm); (case z26k2 => k_asm); (case z26k3 => k_asm); (case z26k4 => k_asm); (case z26k5 => k_asm); (case z26k6 => k_is); (case z26k7 => k_is); (case z26k8 => ktr_room); (case z26k9 => first | exact BindsTo.of_eq rfl | exact binds_K (by k_in) rfl (by k_is) rfl rfl rfl | fail "mine enter: no rule for these arguments"); (case z26c5 => decide); (case z26kB => exact locs rfl); (case z26c2 => exact rfl); (case z26c3 => exact rfl); (case z26c4 => exact rfl); k_whole)))
    exact H.out⟩
theorem entN : Nonempty (Heap × Addr × Heap) := ⟨(default, 0, default)⟩
noncomputable def entP (q : Heap × Addr × Heap) : Prop := ent.1 q.1 q.2.1 q.2.2
@[irreducible] noncomputable def entC : Heap × Addr × Heap := worst entN entP
@[irreducible] noncomputable def gE : Heap := entC.1
@[irreducible] noncomputable def LE : Addr := entC.2.1
@[irreducible] noncomputable def hE : Heap := entC.2.2
theorem walk (hd : DatAll pool vs (qs.map pairD)) (hvs : vs.length ≤ 100) (hne : @Ne Nat l x ∧ @Ne Nat l dx ∧ @Ne Nat x dx) (hnm : Plain (Txt.lower nm)) (hnl : (Txt.lower nm).length ≤ 10) (hnl2 : nm.length ≤ 10) (hql : ∀ q ∈ qs, q.1.length ≤ 10) : CtrTo w 129 [.ref x, .str nm t1] [] 3 40 ((l, W.listOf vs.toArray n) :: (x, instObj 182 dx) :: (dx, hDict w t l) :: pool) (GotFirst ((l, W.listOf vs.toArray n) :: (x, instObj 182 dx) :: (dx, hDict w t l) :: pool) .none (gotAll nm qs).head?)  epsC.2 (ent.1 gE LE hE) := by
  (intro cxB cxF cxX cxN cxT cxk cxd cxu cxr); walk_at "mine pure1"
  k_steps
  refine For_turns (by assumption) ?_
  k_steps
  refine iter_listTurns (by exact rfl) (by assumption) (by assumption) (by k_mem) rfl rfl (fun I hI => ?_)
  refine items_st [Str.ofString "k", Str.ofString "v"] (fun i _ add => add = [] ∧ gotAll nm (qs.take i) = []) ?step ?done ⟨rfl, rfl⟩
  case step =>
    rintro i a9 u add ha ⟨rfl, hno⟩ v9 h9 tk9 hv9 F9
    refine AllObj.cons (fun o9 c9 => AllObj.nil (fun N9 => ?_))
    rw [List.getElem?_map] at ha
    obtain ⟨v, hv, rfl⟩ := Option.map_eq_some_iff.mp ha
    cases hv9
    obtain ⟨q, T, u1, u2, n9, hq, rfl, hm⟩ := pair_at hd hv
    have hq1 := hql q (List.mem_of_getElem? hq)
    rw [List.nil_append] at N9
    have N8 := News.more N9 (p := (T, _)) (List.mem_cons_of_mem _ (List.mem_cons_of_mem _ (List.mem_cons_of_mem _ (List.mem_cons_of_mem _ hm))))
    dsimp only [List.cons_append, List.nil_append] at N8
    clear N9
    k_steps
    · refine ⟨?_, fun p hp => List.mem_cons_of_mem _ (List.mem_cons_of_mem _ hp)⟩
      rw [got_first hno hq (by assumption)]
      exact ⟨_, rfl⟩
    · refine unr_end (by assumption) (by assumption) ((l, W.listOf vs.toArray n) :: (x, instObj 182 dx) :: (dx, hDict w t l) :: pool) (fun p hp => List.mem_cons_of_mem _ hp) (fun p hp r hr => ?_) ⟨⟨List.mem_cons_self, trivial⟩, [], ?_, rfl, rfl, ?_⟩
      · rw [List.mem_singleton.mp hr]; exact Nat.ne_of_lt (hI p hp)
      · intro y hy
        (repeat rw [if_neg (off_st hy (by decide +kernel))])
        rw [if_neg (off_in hy)]
      · rw [got_no hq (by assumption)]; exact hno
  case done =>
    rintro u add h9 tk9 ⟨rfl, hno⟩ F9 N9
    rw [List.length_map, hd.length, List.length_map, List.take_length] at hno
    rw [List.nil_append] at N9
    k_steps
    have hB := (by assumption : Back _ _ _ _ _ _ _)
    have hG := (by assumption : GSub _ _ _)
    exact hB _ _ _ _ (by assumption) (by assumption) (fun b o e n9 => F9.keep b o (hG b o e n9)) ⟨by rw [hno]; rfl, fun p hp => hp⟩
theorem walk2 (hd : DatAll pool vs (qs.map pairD)) (hvs : vs.length ≤ 100) (hne : @Ne Nat l x ∧ @Ne Nat l dx ∧ @Ne Nat x dx) (hnm : Plain (Txt.lower nm)) (hnl : (Txt.lower nm).length ≤ 10) (hnl2 : nm.length ≤ 10) (hql : ∀ q ∈ qs, q.1.length ≤ 10) : CtrTo w 129 [.ref x, .str nm t1] [] 3 40 ((l, W.listOf vs.toArray n) :: (x, instObj 182 dx) :: (dx, hDict w t l) :: pool) (GotFirst ((l, W.listOf vs.toArray n) :: (x, instObj 182 dx) :: (dx, hDict w t l) :: pool) .none (gotAll nm qs).head?)  epsC.2 (entP entC) := by with_unfolding_all exact walk hd hvs hne hnm hnl hnl2 hql
theorem fin : epsP epsC := by
  with_unfolding_all exact fun hd hvs hne hnm hnl hnl2 hql cxB cxF cxX cxN cxT cxk cxd cxu cxr => ent.2 hd hvs hne hnm hnl hnl2 hql ⟨fun x0 x1 x2 => of_worst (P := entP) (h := entN) (by with_unfolding_all exact walk2 hd hvs hne hnm hnl hnl2 hql cxB cxF cxX cxN cxT cxk cxd cxu cxr) (x0, x1, x2)⟩ cxB cxF cxX cxN cxT cxk cxd cxu cxr
end E_get_spec
theorem get_spec (w : World) (x dx l : Addr) (t t1 : Tok) (vs : List Value) (n : Nat) (nm : Str) (qs : List (Str × Str)) (pool : Led) (hd : DatAll pool vs (qs.map pairD)) (hvs : vs.length ≤ 100) (hne : @Ne Nat l x ∧ @Ne Nat l dx ∧ @Ne Nat x dx) (hnm : Plain (Txt.lower nm)) (hnl : (Txt.lower nm).length ≤ 10) (hnl2 : nm.length ≤ 10) (hql : ∀ q ∈ qs, q.1.length ≤ 10) : Ctr w 129 [.ref x, .str nm t1] [] 3 40 ((l, W.listOf vs.toArray n) :: (x, instObj 182 dx) :: (dx, hDict w t l) :: pool) (GotFirst ((l, W.listOf vs.toArray n) :: (x, instObj 182 dx) :: (dx, hDict w t l) :: pool) .none (gotAll nm qs).head?) := ctr_of fun c9 => of_worst (P := E_get_spec.epsP) (h := E_get_spec.epsN) (by with_unfolding_all exact E_get_spec.fin) ((w, x, dx, l, t, t1, vs, n, nm, qs, pool), c9) hd hvs hne hnm hnl hnl2 hql
namespace E_getd_spec
noncomputable def epsP (q : (Value × World × Addr × Addr × Addr × Tok × Tok × (List Value) × Nat × Str × (List (Str × Str)) × Led) × Cx) : Prop := (fun (dv : Value) (w : World) (x : Addr) (dx : Addr) (l : Addr) (t : Tok) (t1 : Tok) (vs : List Value) (n : Nat) (nm : Str) (qs : List (Str × Str)) (pool : Led) (cx9 : Cx) => ∀ (hd : DatAll pool vs (qs.map pairD)) (hvs : vs.length ≤ 100) (hne : @Ne Nat l x ∧ @Ne Nat l dx ∧ @Ne Nat x dx) (hnm : Plain (Txt.lower nm)) (hnl : (Txt.lower nm).length ≤ 10) (hnl2 : nm.length ≤ 10) (hql : ∀ q ∈ qs, q.1.length ≤ 10), CtrAt w 129 [.ref x, .str nm t1, dv] [] 3 40 ((l, W.listOf vs.toArray n) :: (x, instObj 182 dx) :: (dx, hDict w t l) :: pool) (GotFirst ((l, W.listOf vs.toArray n) :: (x, instObj 182 dx) :: (dx, hDict w t l) :: pool) dv (gotAll nm qs).head?)  cx9) q.1.1 q.1.2.1 q.1.2.2.1 q.1.2.2.2.1 q.1.2.2.2.2.1 q.1.2.2.2.2.2.1 q.1.2.2.2.2.2.2.1 q.1.2.2.2.2.2.2.2.1 q.1.2.2.2.2.2.2.2.2.1 q.1.2.2.2.2.2.2.2.2.2.1 q.1.2.2.2.2.2.2.2.2.2.2.1 q.1.2.2.2.2.2.2.2.2.2.2.2 q.2
theorem epsN : Nonempty ((Value × World × Addr × Addr × Addr × Tok × Tok × (List Value) × Nat × Str × (List (Str × Str)) × Led) × Cx) := ⟨((default, Classical.choice neWorld, default, default, default, default, default, default, default, default, default, default), Classical.choice neCx)⟩
@[irreducible] noncomputable def epsC : (Value × World × Addr × Addr × Addr × Tok × Tok × (List Value) × Nat × Str × (List (Str × Str)) × Led) × Cx := worst epsN epsP
@[irreducible] noncomputable def dv : Value := epsC.1.1
@[irreducible] noncomputable def w : World := epsC.1.2.1
@[irreducible] noncomputable def x : Addr := epsC.1.2.2.1
@[irreducible] noncomputable def dx : Addr := epsC.1.2.2.2.1
@[irreducible] noncomputable def l : Addr := epsC.1.2.2.2.2.1
@[irreducible] noncomputable def t : Tok := epsC.1.2.2.2.2.2.1
@[irreducible] noncomputable def t1 : Tok := epsC.1.2.2.2.2.2.2.1
@[irreducible] noncomputable def vs : List Value := epsC.1.2.2.2.2.2.2.2.1
@[irreducible] noncomputable def n : Nat := epsC.1.2.2.2.2.2.2.2.2.1
@[irreducible] noncomputable def nm : Str := epsC.1.2.2.2.2.2.2.2.2.2.1
@[irreducible] noncomputable def qs : List (Str × Str) := epsC.1.2.2.2.2.2.2.2.2.2.2.1
@[irreducible] noncomputable def pool : Led := epsC.1.2.2.2.2.2.2.2.2.2.2.2
noncomputable def ent : (TT9 : Heap → Addr → Heap → Prop) ×' (∀ (hd : DatAll pool vs (qs.map pairD)) (hvs : vs.length ≤ 100) (hne : @Ne Nat l x ∧ @Ne Nat l dx ∧ @Ne Nat x dx) (hnm : Plain (Txt.lower nm)) (hnl : (Txt.lower nm).length ≤ 10) (hnl2 : nm.length ≤ 10) (hql : ∀ q ∈ qs, q.1.length ≤ 10), Hid (∀ x0 x1 x2, TT9 x0 x1 x2) → CtrAt w 129 [.ref x, .str nm t1, dv] [] 3 40 ((l, W.listOf vs.toArray n) :: (x, instObj 182 dx) :: (dx, hDict w t l) :: pool) (GotFirst ((l, W.listOf vs.toArray n) :: (x, instObj 182 dx) :: (dx, hDict w t l) :: pool) dv (gotAll nm qs).head?)  epsC.2) :=
  ⟨_, fun hd hvs hne hnm hnl hnl2 hql H => by
    intro cxB cxF cxX cxN cxT cxk cxd cxu cxr
    ((refine wpAny_call ?_; k_dflt (refine' code_defG ?z27k1 ?z27k2 ?z27k3 ?z27k4 ?z27k5 ?z27kA ?z27kF ?z27kK ?z27k6 ?z27k7 ?z27k8 ?z27k9 ?z27kB ?_ ?z27c2 ?z27c3 ?z27c4 ?z27c5; (case z27kA => exact rfl); (case z27kF => exact rfl); (case z27kK => assumption); (case z27k1 => k_asm); (case z27k2 => k_asm); (case z27k3 => k_asm); (case z27k4 => k_asm); (case z27k5 => k_asm); (case z27k6 => k_is); (case z27k7 => k_is); (case z27k8 => ktr_room); (case z27k9 => first | exact BindsTo.of_eq rfl | exact binds_K (by k_in) rfl (by k_is) rfl rfl rfl | fail "mine enter: no rule for these arguments"); (case z27c5 => decide); (case z27kB => exact locs rfl); (case z27c2 => exact rfl); (case z27c3 => exact rfl); (case z27c4 => exact rfl); k_whole)))
    exact H.out⟩
theorem entN : Nonempty (Heap × Addr × Heap) := ⟨(default, 0, default)⟩
noncomputable def entP (q : Heap × Addr × Heap) : Prop := ent.1 q.1 q.2.1 q.2.2
@[irreducible] noncomputable def entC : Heap × Addr × Heap := worst entN entP
@[irreducible] noncomputable def gE : Heap := entC.1
@[irreducible] noncomputable def LE : Addr := entC.2.1
@[irreducible] noncomputable def hE : Heap := entC.2.2
theorem walk (hd : DatAll pool vs (qs.map pairD)) (hvs : vs.length ≤ 100) (hne : @Ne Nat l x ∧ @Ne Nat l dx ∧ @Ne Nat x dx) (hnm : Plain (Txt.lower nm)) (hnl : (Txt.lower nm).length ≤ 10) (hnl2 : nm.length ≤ 10) (hql : ∀ q ∈ qs, q.1.length ≤ 10) : CtrTo w 129 [.ref x, .str nm t1, dv] [] 3 40 ((l, W.listOf vs.toArray n) :: (x, instObj 182 dx) :: (dx, hDict w t l) :: pool) (GotFirst ((l, W.listOf vs.toArray n) :: (x, instObj 182 dx) :: (dx, hDict w t l) :: pool) dv (gotAll nm qs).head?)  epsC.2 (ent.1 gE LE hE) := by
  (intro cxB cxF cxX cxN cxT cxk cxd cxu cxr); walk_at "mine pure1"
  k_steps
  refine For_turns (by assumption) ?_
  k_steps
  refine iter_listTurns (by exact rfl) (by assumption) (by assumption) (by k_mem) rfl rfl (fun I hI => ?_)
  refine items_st [Str.ofString "k", Str.ofString "v"] (fun i _ add => add = [] ∧ gotAll nm (qs.take i) = []) ?step ?done ⟨rfl, rfl⟩
  case step =>
    rintro i a9 u add ha ⟨rfl, hno⟩ v9 h9 tk9 hv9 F9
    refine AllObj.cons (fun o9 c9 => AllObj.nil (fun N9 => ?_))
    rw [List.getElem?_map] at ha
    obtain ⟨v, hv, rfl⟩ := Option.map_eq_some_iff.mp ha
    cases hv9
    obtain ⟨q, T, u1, u2, n9, hq, rfl, hm⟩ := pair_at hd hv
    have hq1 := hql q (List.mem_of_getElem? hq)
    rw [List.nil_append] at N9
    have N8 := News.more N9 (p := (T, _)) (List.mem_cons_of_mem _ (List.mem_cons_of_mem _ (List.mem_cons_of_mem _ (List.mem_cons_of_mem _ hm))))
    dsimp only [List.cons_append, List.nil_append] at N8
    clear N9
    k_steps
    · refine ⟨?_, fun p hp => List.mem_cons_of_mem _ (List.mem_cons_of_mem _ hp)⟩
      rw [got_first hno hq (by assumption)]
      exact ⟨_, rfl⟩
    · refine unr_end (by assumption) (by assumption) ((l, W.listOf vs.toArray n) :: (x, instObj 182 dx) :: (dx, hDict w t l) :: pool) (fun p hp => List.mem_cons_of_mem _ hp) (fun p hp r hr => ?_) ⟨⟨List.mem_cons_self, trivial⟩, [], ?_, rfl, rfl, ?_⟩
      · rw [List.mem_singleton.mp hr]; exact Nat.ne_of_lt (hI p hp)
      · intro y hy
        (repeat rw [if_neg (off_st hy (by decide +kernel))])
        rw [if_neg (off_in hy)]
      · rw [got_no hq (by assumption)]; exact hno
  case done =>
    rintro u add h9 tk9 ⟨rfl, hno⟩ F9 N9
    rw [List.length_map, hd.length, List.length_map, List.take_length] at hno
    rw [List.nil_append] at N9
    k_steps
    have hB := (by assumption : Back _ _ _ _ _ _ _)
    have hG := (by assumption : GSub _ _ _)
    exact hB _ _ _ _ (by assumption) (by assumption) (fun b o e n9 => F9.keep b o (hG b o e n9)) ⟨by rw [hno]; rfl, fun p hp => hp⟩
theorem walk2 (hd : DatAll pool vs (qs.map pairD)) (hvs : vs.length ≤ 100) (hne : @Ne Nat l x ∧ @Ne Nat l dx ∧ @Ne Nat x dx) (hnm : Plain (Txt.lower nm)) (hnl : (Txt.lower nm).length ≤ 10) (hnl2 : nm.length ≤ 10) (hql : ∀ q ∈ qs, q.1.length ≤ 10) : CtrTo w 129 [.ref x, .str nm t1, dv] [] 3 40 ((l, W.listOf vs.toArray n) :: (x, instObj 182 dx) :: (dx, hDict w t l) :: pool) (GotFirst ((l, W.listOf vs.toArray n) :: (x, instObj 182 dx) :: (dx, hDict w t l) :: pool) dv (gotAll nm qs).head?)  epsC.2 (entP entC) := by with_unfolding_all exact walk hd hvs hne hnm hnl hnl2 hql
theorem fin : epsP epsC := by
  with_unfolding_all exact fun hd hvs hne hnm hnl hnl2 hql cxB cxF cxX cxN cxT cxk cxd cxu cxr => ent.2 hd hvs hne hnm hnl hnl2 hql ⟨fun x0 x1 x2 => of_worst (P := entP) (h := entN) (by with_unfolding_all exact walk2 hd hvs hne hnm hnl hnl2 hql cxB cxF cxX cxN cxT cxk cxd cxu cxr) (x0, x1, x2)⟩ cxB cxF cxX cxN cxT cxk cxd cxu cxr
end E_getd_spec
theorem getd_spec (dv : Value) (w : World) (x dx l : Addr) (t t1 : Tok) (vs : List Value) (n : Nat) (nm : Str) (qs : List (Str × Str)) (pool : Led) (hd : DatAll pool vs (qs.map pairD)) (hvs : vs.length ≤ 100) (hne : @Ne Nat l x ∧ @Ne Nat l dx ∧ @Ne Nat x dx) (hnm : Plain (Txt.lower nm)) (hnl : (Txt.lower nm).length ≤ 10) (hnl2 : nm.length ≤ 10) (hql : ∀ q ∈ qs, q.1.length ≤ 10) : Ctr w 129 [.ref x, .str nm t1, dv] [] 3 40 ((l, W.listOf vs.toArray n) :: (x, instObj 182 dx) :: (dx, hDict w t l) :: pool) (GotFirst ((l, W.listOf vs.toArray n) :: (x, instObj 182 dx) :: (dx, hDict w t l) :: pool) dv (gotAll nm qs).head?) := ctr_of fun c9 => of_worst (P := E_getd_spec.epsP) (h := E_getd_spec.epsN) (by with_unfolding_all exact E_getd_spec.fin) ((dv, w, x, dx, l, t, t1, vs, n, nm, qs, pool), c9) hd hvs hne hnm hnl hnl2 hql
end
end
end
end
end
theorem sweepP7a {M : Model} {A : Around} {env : Env} {Q : Flow → Shared → Prop} {E : Value → Shared → Prop} {s : Shared} (h : wpAny M A (execs [] env) Q E s) : wpAny M A (execs [] env) Q E s := by w_top off; first | (walk1; fail "swept") | exact h
section
local macro_rules | `(tactic| k_all) => `(tactic| k_extra "mk2")
theorem sweepP7 {M : Model} {A : Around} {env : Env} {Q : Flow → Shared → Prop} {E : Value → Shared → Prop} {s : Shared} (h : wpAny M A (execs [] env) Q E s) : wpAny M A (execs [] env) Q E s := by w_top off; first | (walk1; fail "swept") | exact h
section
/-- a copy of a list beside what stood -/
noncomputable def Copied (cells : Led) (vs : List Value) (news' : Led) (v : Value) : Prop := ∃ (D : Addr) (n' : Nat), v = .ref D ∧ ∀ p ∈ (D, W.listOf vs.toArray n') :: cells, p ∈ news'
namespace E_items_spec
noncomputable def epsP (q : (World × Addr × Addr × Addr × Tok × (List Value) × Nat) × Cx) : Prop := (fun (w : World) (x : Addr) (dx : Addr) (l : Addr) (t : Tok) (vs : List Value) (n : Nat) (cx9 : Cx) => ∀ (hvs : vs.length ≤ 100) (hne : @Ne Nat l x ∧ @Ne Nat l dx ∧ @Ne Nat x dx), CtrAt w 146 [.ref x] [] 1 16 [(l, W.listOf vs.toArray n), (x, instObj 182 dx), (dx, hDict w t l)] (Copied [(l, W.listOf vs.toArray n), (x, instObj 182 dx), (dx, hDict w t l)] vs)  cx9) q.1.1 q.1.2.1 q.1.2.2.1 q.1.2.2.2.1 q.1.2.2.2.2.1 q.1.2.2.2.2.2.1 q.1.2.2.2.2.2.2 q.2
theorem epsN : Nonempty ((World × Addr × Addr × Addr × Tok × (List Value) × Nat) × Cx) := ⟨((Classical.choice neWorld, default, default, default, default, default, default), Classical.choice neCx)⟩
@[irreducible] noncomputable def epsC : (World × Addr × Addr × Addr × Tok × (List Value) × Nat) × Cx := worst epsN epsP
@[irreducible] noncomputable def w : World := epsC.1.1
@[irreducible] noncomputable def x : Addr := epsC.1.2.1
@[irreducible] noncomputable def dx : Addr := epsC.1.2.2.1
@[irreducible] noncomputable def l : Addr := epsC.1.2.2.2.1
@[irreducible] noncomputable def t : Tok := epsC.1.2.2.2.2.1
@[irreducible] noncomputable def vs : List Value := epsC.1.2.2.2.2.2.1
@[irreducible] noncomputable def n : Nat := epsC.1.2.2.2.2.2.2
noncomputable def ent : (TT9 : Heap → Addr → Heap → Prop) ×' (∀ (hvs : vs.length ≤ 100) (hne : @Ne Nat l x ∧ @Ne Nat l dx ∧ @Ne Nat x dx), Hid (∀ x0 x1 x2, TT9 x0 x1 x2) → CtrAt w 146 [.ref x] [] 1 16 [(l, W.listOf vs.toArray n), (x, instObj 182 dx), (dx, hDict w t l)] (Copied [(l, W.listOf vs.toArray n), (x, instObj 182 dx), (dx, hDict w t l)] vs)  epsC.2) :=
  ⟨_, fun hvs hne H => by
    intro cxB cxF cxX cxN cxT cxk cxd cxu cxr
    ((refine wpAny_call ?_; k_dflt (refine' code_defG ?z28k1 ?z28k2 ?z28k3 ?z28k4 ?z28k5 ?z28kA ?z28kF ?z28kK ?z28k6 ?z28k7 ?z28k8 ?z28k9 ?z28kB ?_ ?z28c2 ?z28c3 ?z28c4 ?z28c5; (case z28kA => exact rfl); (case z28kF => exact rfl); (case z28kK => assumption); (case z28k1 => k_asm); (case z28k2 => k_asm); (case z28k3 => k_asm); (case z28k4 => k_asm); (case z28k5 => k_asm); (case z28k6 => k_is); (case z28k7 => k_is); (case z28k8 => ktr_room); (case z28k9 => first | exact BindsTo.of_eq rfl | exact binds_K (by k_in) rfl (by k_is) rfl rfl rfl | fail "mine enter: no rule for these arguments"); (case z28c5 => decide); (case z28kB => exact locs rfl); (case z28c2 => exact rfl); (case z28c3 => exact rfl); (case z28c4 => exact rfl); k_whole)))
    exact H.out⟩
theorem entN : Nonempty (Heap × Addr × Heap) := ⟨(default, 0, default)⟩
noncomputable def entP (q : Heap × Addr × Heap) : Prop := ent.1 q.1 q.2.1 q.2.2
@[irreducible] noncomputable def entC : Heap × Addr × Heap := worst entN entP
@[irreducible] noncomputable def gE : Heap := entC.1
@[irreducible] noncomputable def LE : Addr := entC.2.1
@[irreducible] noncomputable def hE : Heap := entC.2.2
theorem walk (hvs : vs.length ≤ 100) (hne : @Ne Nat l x ∧ @Ne Nat l dx ∧ @Ne Nat x dx) : CtrTo w 146 [.ref x] [] 1 16 [(l, W.listOf vs.toArray n), (x, instObj 182 dx), (dx, hDict w t l)] (Copied [(l, W.listOf vs.toArray n), (x, instObj 182 dx), (dx, hDict w t l)] vs)  epsC.2 (ent.1 gE LE hE) := by
  (intro cxB cxF cxX cxN cxT cxk cxd cxu cxr); walk_at "mine pure1"
  k_steps
  rw [slicePick_all]
  exact ⟨_, 0, rfl, fun _ h => h⟩
theorem walk2 (hvs : vs.length ≤ 100) (hne : @Ne Nat l x ∧ @Ne Nat l dx ∧ @Ne Nat x dx) : CtrTo w 146 [.ref x] [] 1 16 [(l, W.listOf vs.toArray n), (x, instObj 182 dx), (dx, hDict w t l)] (Copied [(l, W.listOf vs.toArray n), (x, instObj 182 dx), (dx, hDict w t l)] vs)  epsC.2 (entP entC) := by with_unfolding_all exact walk hvs hne
theorem fin : epsP epsC := by
  with_unfolding_all exact fun hvs hne cxB cxF cxX cxN cxT cxk cxd cxu cxr => ent.2 hvs hne ⟨fun x0 x1 x2 => of_worst (P := entP) (h := entN) (by with_unfolding_all exact walk2 hvs hne cxB cxF cxX cxN cxT cxk cxd cxu cxr) (x0, x1, x2)⟩ cxB cxF cxX cxN cxT cxk cxd cxu cxr
end E_items_spec
theorem items_spec (w : World) (x dx l : Addr) (t : Tok) (vs : List Value) (n : Nat) (hvs : vs.length ≤ 100) (hne : @Ne Nat l x ∧ @Ne Nat l dx ∧ @Ne Nat x dx) : Ctr w 146 [.ref x] [] 1 16 [(l, W.listOf vs.toArray n), (x, instObj 182 dx), (dx, hDict w t l)] (Copied [(l, W.listOf vs.toArray n), (x, instObj 182 dx), (dx, hDict w t l)] vs) := ctr_of fun c9 => of_worst (P := E_items_spec.epsP) (h := E_items_spec.epsN) (by with_unfolding_all exact E_items_spec.fin) ((w, x, dx, l, t, vs, n), c9) hvs hne
end
section
open AutoSeq1 (wpAny_loadPart')
section
variable {prog : Program} {w : World} {A : Around} {E : Value → Shared → Prop} {s : Shared}
theorem nextOf_tuple_item {it t : Addr} {i : Nat} {items : Array Value} {x : Value} {Q : Value → Shared → Prop} (hit : s.heap.IsTupleIter it t i) (ht : s.heap.IsTuple t items) (hx : items[i]? = some x)
    (hQ : ∀ h', h'.IsTupleIter it t (i + 1) → Heap.SameBut it s.heap h' → Q x { s with heap := h' }) : wpAny (model prog w) A (Builtin.SmallTypes.nextOf (.ref it)) Q E s := by
  obtain ⟨o, ho, hc, hd⟩ := id hit
  obtain ⟨ol, hol, _, nl, hdl⟩ := ht
  unfold Builtin.SmallTypes.nextOf
  refine wpAny_bind (wpAny_callSpecial?_slot (name := Str.ofString "__next__") hit.typeIs F.slot_tuple_iterator_next
    (wpAny_call_entry F.slot_tuple_iterator_next hit.typeIs F.entry_tuple_iterator_next ?_ (F.args_tuple_iterator_next_1 _)))
  show wpAny _ _ (field (.ref it) 0 >>= _) _ _ s
  refine wpAny_bind (wpAny_field ho hd (x := .ref t) rfl ?_)
  show wpAny _ _ (if (Value.ref t == Value.none) = true then _ else _) _ _ s
  rw [if_neg (show ¬ ((Value.ref t == Value.none) = true) from Bool.false_ne_true)]
  show wpAny _ _ (field (.ref it) 1 >>= _) _ _ s
  refine wpAny_bind (wpAny_field ho hd (x := .int i 0) rfl ?_)
  show wpAny _ _ (seqItems? (.ref t) >>= _) _ _ s
  refine wpAny_bind (wpAny_seqItems hol hdl ?_)
  simp only [Int.toNat_natCast, hx]
  refine wpAny_bind (wpAny_setField ho hd (by simp) (wpAny_pure ⟨x, rfl, wpAny_pure (hQ _ ?_ (Heap.SameBut.update ..))⟩))
  exact ⟨_, Heap.get?_update_self _ ho (Obj.isFreed_of_fields (Obj.data_mapFields hd _)), (Obj.cls_mapFields ..).trans hc, by
    rw [Obj.data_mapFields hd]; simp [rawInt]⟩
theorem nextOf_tuple_end {it t : Addr} {i : Nat} {items : Array Value} {Q : Value → Shared → Prop} (hh : A.handled = none) (hit : s.heap.IsTupleIter it t i) (ht : s.heap.IsTuple t items) (hx : items[i]? = none)
    (hE : ∀ h' e, Heap.ExtBut it s.heap h' → (∃ o, h'.get? e = some o ∧ o.cls = .type "StopIteration") → E (.ref e) { s with heap := h' }) : wpAny (model prog w) A (Builtin.SmallTypes.nextOf (.ref it)) Q E s := by
  obtain ⟨o, ho, hc, hd⟩ := id hit
  obtain ⟨ol, hol, _, nl, hdl⟩ := ht
  unfold Builtin.SmallTypes.nextOf
  refine wpAny_bind (wpAny_callSpecial?_slot (name := Str.ofString "__next__") hit.typeIs F.slot_tuple_iterator_next
    (wpAny_call_entry F.slot_tuple_iterator_next hit.typeIs F.entry_tuple_iterator_next ?_ (F.args_tuple_iterator_next_1 _)))
  show wpAny _ _ (field (.ref it) 0 >>= _) _ _ s
  refine wpAny_bind (wpAny_field ho hd (x := .ref t) rfl ?_)
  show wpAny _ _ (if (Value.ref t == Value.none) = true then _ else _) _ _ s
  rw [if_neg (show ¬ ((Value.ref t == Value.none) = true) from Bool.false_ne_true)]
  show wpAny _ _ (field (.ref it) 1 >>= _) _ _ s
  refine wpAny_bind (wpAny_field ho hd (x := .int i 0) rfl ?_)
  show wpAny _ _ (seqItems? (.ref t) >>= _) _ _ s
  refine wpAny_bind (wpAny_seqItems hol hdl ?_)
  simp only [Int.toNat_natCast, hx]
  refine wpAny_bind (wpAny_rule (wpAny_bind (wpAny_setField ho hd (by simp) ?_)))
  show wpAny _ _ (newExc (.type "StopIteration") [] >>= _) _ _ _
  refine wpAny_bind ?_
  simp only [newExc, newTuple]
  refine wpAny_bind (wpAny_newObj_type ?_ (by size_fits))
  refine wpAny_bind (m := firstArgMember _ _) (wpAny_of_eq (a := Value.none) (by first | rfl | (simp only [firstArgMember]; rfl)) ?_)
  refine wpAny_newObj_type ?_ (by size_fits)
  simp only [raiseNew]
  refine wpAny_bind (wpAny_handled ?_)
  first | rw [show A.in1.handled = none from hh] | rw [hh]
  refine wpAny_bind (wpAny_pure (wpAny_throw ?_))
  exact hE _ _ (((Heap.SameBut.update ..).extBut.push _).push _) ⟨_, Heap.get?_push_size _ rfl, rfl⟩
theorem drawsTup (hh : A.handled = none) (it l : Addr) (hne : l ≠ it) (items : Array Value) :
    Draws prog w A it [it, l] items.size (fun i v => items[i]? = some v) (fun i h => h.IsTupleIter it l i ∧ h.IsTuple l items) where
  live := fun _ _ st => let ⟨o, ho, _⟩ := st.1; ⟨o, ho⟩
  frame := fun _ _ _ st hk => ⟨let ⟨o, ho, r⟩ := st.1; ⟨o, hk it (by simp) o ho, r⟩, let ⟨o, ho, r⟩ := st.2; ⟨o, hk l (by simp) o ho, r⟩⟩
  item := fun i s Q E hi st hQ => by
    refine nextOf_tuple_item st.1 st.2 (x := items[i]) (by simp [hi]) fun h' hit' hs' => ?_
    exact hQ _ h' s.toks (by simp [hi]) ⟨hit', st.2.extBut hs'.extBut hne⟩ hs'
  done := fun s Q E st hE => nextOf_tuple_end hh st.1 st.2 (by simp) hE
theorem meets_enumerate_newT (l : Addr) (items : Array Value) (n : Nat) (dct : Option Addr) (sl : Array (Option Value)) :
    Meets (Builtin.«enumerate.__new__» ⟨[.type "enumerate", .ref l], []⟩) (fun _ R s => s.heap.get? l = some { cls := .type "tuple", dict := dct, data := .seq items n, slots := sl } ∧
      R (.ok (.ret (.ref (s.heap.push { cls := .type "tuple_iterator", data := .fields #[.ref l, .int 0 0] }).objs.size)))
        { s with heap := (s.heap.push { cls := .type "tuple_iterator", data := .fields #[.ref l, .int 0 0] }).push { cls := .type "enumerate", data := .fields #[.none, .bool false, .ref s.heap.objs.size, rawInt 0, .none, .none] } }) :=
  .of_wp fun prog w A R s h => by
    obtain ⟨hp, g, d, tk, os⟩ := s; obtain ⟨hl, h⟩ := h
    have hsub := sub_enumerate
    have hL : Heap.IsTuple (Shared.heap ⟨hp, g, d, tk, os⟩) l items := ⟨_, hl, rfl, n, rfl⟩
    wp_walk using wpAny_loadPart' hl
    refine wpAny_stack_any fun st => wpAny_pure ?_
    split
    · rename_i c _ _ _ _ _
      cases (c == Value.type "enumerate")
      · wp_walk using wpAny_loadPart' hl, wpAny_pyIter_tuple hL
        exact ⟨_, rfl, h⟩
      · wp_walk using wpAny_loadPart' hl, wpAny_pyIter_tuple hL
        exact ⟨_, rfl, h⟩
    · wp_walk using wpAny_loadPart' hl, wpAny_pyIter_tuple hL
      exact ⟨_, rfl, h⟩
end
end
section
open PyProof.V PySem.Spec
section
variable {prog : Program} {w : World} {A : Around} {E : Value → Shared → Prop} {s : Shared} {env : Env} {h₀ : Heap} {body : List Stmt} {Q : Flow → Shared → Prop}
theorem call_enumerate_tuple {l : Addr} {items : Array Value} {Q : Value → Shared → Prop} (hL : s.heap.IsTuple l items)
    (h : ∀ h', IsEnum h' (s.heap.objs.size + 1) s.heap.objs.size 0 .none → h'.IsTupleIter s.heap.objs.size l 0 → h'.objs.size = s.heap.objs.size + 2 →
      (∀ b o, s.heap.get? b = some o → h'.get? b = some o) → Q (.ref (s.heap.objs.size + 1)) { s with heap := h' }) :
    wpAny (model prog w) A (call (.type "enumerate") [.ref l]) Q E s := by
  obtain ⟨⟨c, dct, dt, sl⟩, hl, hc, n, hd⟩ := hL
  replace hc : c = .type "tuple" := hc
  replace hd : dt = .seq items n := hd
  subst hc hd
  refine callType_new F.called_enumerate (by decide) (F.typeCall_enumerate_1 _) (F.newCall_enumerate_1 _) (fun obj => F.args_object_init_2 obj _) F.entry_enumerate_new
    (meets_enumerate_newT l items n dct sl) ⟨hl, ?_⟩
  have hz : (s.heap.push { cls := .type "tuple_iterator", data := .fields #[.ref l, .int 0 0] }).objs.size = s.heap.objs.size + 1 := Heap.size_push ..
  show _ ∧ _
  rw [hz]
  have he : IsEnum ((s.heap.push { cls := .type "tuple_iterator", data := .fields #[.ref l, .int 0 0] }).push
      { cls := .type "enumerate", data := .fields #[.none, .bool false, .ref s.heap.objs.size, rawInt 0, .none, .none] }) (s.heap.objs.size + 1) s.heap.objs.size 0 .none := by
    have := Heap.get?_push_size (s.heap.push { cls := .type "tuple_iterator", data := .fields #[.ref l, .int 0 0] })
      (o := { cls := .type "enumerate", data := .fields #[.none, .bool false, .ref s.heap.objs.size, rawInt 0, .none, .none] }) rfl
    rw [hz] at this; exact this
  refine ⟨⟨_, he, rfl⟩, h _ he ⟨_, Heap.get?_push_of_some _ (Heap.get?_push_size _ rfl), rfl, rfl⟩ (by rw [Heap.size_push, hz]) fun b o x => Heap.get?_push_of_some _ (Heap.get?_push_of_some _ x)⟩
end
end
section
open PyProof.V PySem.Spec
section
variable {prog : Program} {w : World} {A : Around} {E : Value → Shared → Prop} {s : Shared} {env : Env} {h₀ : Heap} {body : List Stmt} {Q : Flow → Shared → Prop}
theorem enum_tup {elts : List Expr} {k : Nat} {pos : Pos} {l : Addr} {vs : List Value} {xs : List Itm} {m₀ : Str → Option Value} {news : Led}
    (hh : A.handled = none) (F : Fr h₀ env.locals s.heap m₀) (N : News h₀ env.locals s.heap news) (hT : h₀.IsTuple l vs.toArray) (hlL : l ≠ env.locals) (hx : enumItems 0 vs = xs)
    (rest₀ : ∀ I : Addr, (∀ p ∈ news, p.1 < I) → ItemsRest prog w A E h₀ env (.Tuple elts k pos) body Q s [(I + 1, "enumerate"), (I, "tuple_iterator")] [] xs m₀ news) :
    wpAny (model prog w) A (call (.type "enumerate") [.ref l]) (fun xv s₁ => wpAny (model prog w) A (pyIter xv) (fun it s₂ => TurnsAt prog w A h₀ env (.Tuple elts k pos) body Q E it s₂) E s₁) E s := by
  subst hx
  obtain ⟨ol, hol, hr⟩ := hT
  have hl : s.heap.IsTuple l vs.toArray := ⟨ol, F.keep _ _ hol, hr⟩
  have hlt : l < s.heap.objs.size := Heap.lt_size (F.keep _ _ hol)
  have hLs : env.locals < s.heap.objs.size := F.ns.lt
  refine call_enumerate_tuple hl fun h' hE hI hsz hk => ?_
  refine wpAny_pyIter_enum hE ?_
  refine ktg_core (tk0 := s.toks) (keep := []) (KTurns.ofWalksU (WalksT.enumerateD (drawsTup (A := A.in1) hh s.heap.objs.size l (Nat.ne_of_lt hlt) vs.toArray) (s.heap.objs.size + 1) (Nat.succ_ne_self _) ?_ (by simp)).toU) (by simp [enumItems_length]) ?_ ?_ ?_ ?_ ?_ ?_ ?_ ?_ (F.keeps hk) (N.grown hk) trivial (rest₀ _ fun p hp => Heap.lt_size (N p hp).1)
  · exact fun q => by
      have hb' : s.heap.objs.size + 1 = s.heap.objs.size ∨ s.heap.objs.size + 1 = l := by simpa using q
      rcases hb' with e | e
      · exact Nat.succ_ne_self _ e
      · exact ktu_ne 1 hlt e.symm
  · rintro i v h ⟨T, vals, rfl, ⟨t, x, hx, rfl⟩, hT⟩
    refine ⟨_, enumItems_get vs 0 i (v := x) (by simpa using hx), T, t, rfl, ?_⟩
    show IsTup h T #[.int ((0 + i : Nat) : Int) t, x]
    rw [Nat.zero_add]
    exact hT
  · rintro i h ⟨⟨old, he⟩, ⟨oi, hoi, hic, _⟩, _⟩
    have he' : ∃ oe : Obj, h.get? (s.heap.objs.size + 1) = some oe ∧ oe.cls = .type "enumerate" := ⟨_, he, rfl⟩
    obtain ⟨oe, h1, h2⟩ := he'
    refine ⟨[(s.heap.objs.size + 1, oe), (s.heap.objs.size, oi)], ⟨⟨rfl, h2⟩, ⟨rfl, hic⟩, trivial⟩, fun p hp => ?_⟩
    rcases List.mem_cons.mp hp with rfl | hp
    · exact h1
    · rw [List.mem_singleton.mp hp]; exact hoi
  · intro b hb
    have hb' : b = s.heap.objs.size + 1 ∨ b = s.heap.objs.size := by simpa using hb
    rcases hb' with rfl | rfl
    · exact ⟨by simp, ktu_new F (Nat.le_add_right _ _)⟩
    · exact ⟨by simp, ktu_new F (Nat.le_refl _)⟩
  · intro b hb
    simpa using hb
  · intro b hb
    have hb' : b = s.heap.objs.size + 1 ∨ b = s.heap.objs.size ∨ b = l := by simpa using hb
    rcases hb' with rfl | rfl | rfl
    · exact .inl (by simp)
    · exact .inl (by simp)
    · exact .inr (.inr ⟨ol, hol⟩)
  · intro hI'
    have hb' : env.locals = s.heap.objs.size + 1 ∨ env.locals = s.heap.objs.size ∨ env.locals = l := by simpa using hI'
    rcases hb' with e | e | e
    · exact ktu_ne 1 hLs e
    · exact Nat.ne_of_lt hLs e
    · exact hlL e.symm
  · intro p hp hI'
    have hb' : p.1 = s.heap.objs.size + 1 ∨ p.1 = s.heap.objs.size := by simpa using hI'
    have hlp := Heap.lt_size (N p hp).1
    rcases hb' with e | e
    · exact ktu_ne 1 hlp e
    · exact Nat.ne_of_lt hlp e
  · exact ⟨⟨.none, hE⟩, hI, let ⟨o, ho, r⟩ := hl; ⟨o, hk l o ho, r⟩⟩
end
end
section
open PyProof.V PySem.Spec
section
variable {prog : Program} {w : World} {A : Around} {E : Value → Shared → Prop} {s : Shared} {env : Env} {h₀ : Heap} {target : Expr} {body orelse : List Stmt} {Q : Flow → Shared → Prop}
noncomputable def ElsePost (h₀ : Heap) (L : Addr) (s₁ : Shared) (I : Addr) (oI : Obj) (J : (Str → Option Value) → Led → Prop) (Q : Flow → Shared → Prop) (f : Flow) (s₂ : Shared) : Prop := match f with
  | .ret v => Q (.ret v) s₂
  | .brk => Q .next s₂
  | _ => ∃ h' tk m' news', s₂ = { s₁ with heap := h', toks := tk } ∧ Fr h₀ L h' m' ∧ News h₀ L h' ((I, oI) :: news') ∧ (∀ p ∈ news', p.1 ≠ I) ∧ J m' news'
end
namespace E_for_else
noncomputable def epsP (q : Program × World × (Value → Shared → Prop) × Shared × Env × Heap × Expr × (List Stmt) × (List Stmt) × (Flow → Shared → Prop) × Expr × Pos × Addr × Obj × (List Value) × Nat × (Str → Option Value) × Led × (Nat → (Str → Option Value) → Led → Prop)) : Prop := (fun (prog : Program) (w : World) (E : Value → Shared → Prop) (s : Shared) (env : Env) (h₀ : Heap) (target : Expr) (body : List Stmt) (orelse : List Stmt) (Q : Flow → Shared → Prop) (iter : Expr) (pos : Pos) (ax : Addr) (lo : Obj) (vs : List Value) (n : Nat) (m₀ : Str → Option Value) (news₀ : Led) (J : Nat → (Str → Option Value) → Led → Prop) => ∀ (A : Around) (hh : A.handled = none) (hg : h₀.get? ax = some lo) (hc : lo.cls = .type "tuple") (hd : lo.data = .seq vs.toArray n) (hev : wpAny (model prog w) A (eval iter env) (fun xv s₁ => xv = .ref ax ∧ ∃ h' tk, s₁ = { s with heap := h', toks := tk } ∧ Fr h₀ env.locals h' m₀ ∧ News h₀ env.locals h' news₀) E s) (h0 : J 0 m₀ news₀) (step : ∀ I oI i v m news h tk, vs[i]? = some v → J i m news → Fr h₀ env.locals h m → News h₀ env.locals h ((I, oI) :: news) → (∀ p ∈ news, p.1 ≠ I) → (∀ p ∈ news₀, p.1 < I) →
      wpAny (model prog w) A (assign target env v) (fun _ s₂ => wpAny (model prog w) A (execs body env) (ElsePost h₀ env.locals { s with heap := h, toks := tk } I oI (J (i + 1)) Q) E s₂) E { s with heap := h, toks := tk }) (done : ∀ m news h tk, J vs.length m news → Fr h₀ env.locals h m → News h₀ env.locals h news → wpAny (model prog w) A (execs orelse env) Q E { s with heap := h, toks := tk }) (hs : ∀ x, foldedSetIterable iter env x = pure x) (hE : PassesOwn (model prog w) A env E), wpAny (model prog w) A (exec (.For target iter body orelse pos) env) Q E s) q.1 q.2.1 q.2.2.1 q.2.2.2.1 q.2.2.2.2.1 q.2.2.2.2.2.1 q.2.2.2.2.2.2.1 q.2.2.2.2.2.2.2.1 q.2.2.2.2.2.2.2.2.1 q.2.2.2.2.2.2.2.2.2.1 q.2.2.2.2.2.2.2.2.2.2.1 q.2.2.2.2.2.2.2.2.2.2.2.1 q.2.2.2.2.2.2.2.2.2.2.2.2.1 q.2.2.2.2.2.2.2.2.2.2.2.2.2.1 q.2.2.2.2.2.2.2.2.2.2.2.2.2.2.1 q.2.2.2.2.2.2.2.2.2.2.2.2.2.2.2.1 q.2.2.2.2.2.2.2.2.2.2.2.2.2.2.2.2.1 q.2.2.2.2.2.2.2.2.2.2.2.2.2.2.2.2.2.1 q.2.2.2.2.2.2.2.2.2.2.2.2.2.2.2.2.2.2
theorem epsN : Nonempty (Program × World × (Value → Shared → Prop) × Shared × Env × Heap × Expr × (List Stmt) × (List Stmt) × (Flow → Shared → Prop) × Expr × Pos × Addr × Obj × (List Value) × Nat × (Str → Option Value) × Led × (Nat → (Str → Option Value) → Led → Prop)) := ⟨(default, Classical.choice neWorld, default, {}, { scope := ⟨.module, [], false, false, []⟩, locals := 0, globals := 0, cells := [] }, default, default, default, default, default, default, default, default, default, default, default, default, default, default)⟩
@[irreducible] noncomputable def epsC : Program × World × (Value → Shared → Prop) × Shared × Env × Heap × Expr × (List Stmt) × (List Stmt) × (Flow → Shared → Prop) × Expr × Pos × Addr × Obj × (List Value) × Nat × (Str → Option Value) × Led × (Nat → (Str → Option Value) → Led → Prop) := worst epsN epsP
@[irreducible] noncomputable def prog : Program := epsC.1
@[irreducible] noncomputable def w : World := epsC.2.1
@[irreducible] noncomputable def E : Value → Shared → Prop := epsC.2.2.1
@[irreducible] noncomputable def s : Shared := epsC.2.2.2.1
@[irreducible] noncomputable def env : Env := epsC.2.2.2.2.1
@[irreducible] noncomputable def h₀ : Heap := epsC.2.2.2.2.2.1
@[irreducible] noncomputable def target : Expr := epsC.2.2.2.2.2.2.1
@[irreducible] noncomputable def body : List Stmt := epsC.2.2.2.2.2.2.2.1
@[irreducible] noncomputable def orelse : List Stmt := epsC.2.2.2.2.2.2.2.2.1
@[irreducible] noncomputable def Q : Flow → Shared → Prop := epsC.2.2.2.2.2.2.2.2.2.1
@[irreducible] noncomputable def iter : Expr := epsC.2.2.2.2.2.2.2.2.2.2.1
@[irreducible] noncomputable def pos : Pos := epsC.2.2.2.2.2.2.2.2.2.2.2.1
@[irreducible] noncomputable def ax : Addr := epsC.2.2.2.2.2.2.2.2.2.2.2.2.1
@[irreducible] noncomputable def lo : Obj := epsC.2.2.2.2.2.2.2.2.2.2.2.2.2.1
@[irreducible] noncomputable def vs : List Value := epsC.2.2.2.2.2.2.2.2.2.2.2.2.2.2.1
@[irreducible] noncomputable def n : Nat := epsC.2.2.2.2.2.2.2.2.2.2.2.2.2.2.2.1
@[irreducible] noncomputable def m₀ : Str → Option Value := epsC.2.2.2.2.2.2.2.2.2.2.2.2.2.2.2.2.1
@[irreducible] noncomputable def news₀ : Led := epsC.2.2.2.2.2.2.2.2.2.2.2.2.2.2.2.2.2.1
@[irreducible] noncomputable def J : Nat → (Str → Option Value) → Led → Prop := epsC.2.2.2.2.2.2.2.2.2.2.2.2.2.2.2.2.2.2
theorem walk (A : Around) (hh : A.handled = none) (hg : h₀.get? ax = some lo) (hc : lo.cls = .type "tuple") (hd : lo.data = .seq vs.toArray n) (hev : wpAny (model prog w) A (eval iter env) (fun xv s₁ => xv = .ref ax ∧ ∃ h' tk, s₁ = { s with heap := h', toks := tk } ∧ Fr h₀ env.locals h' m₀ ∧ News h₀ env.locals h' news₀) E s) (h0 : J 0 m₀ news₀) (step : ∀ I oI i v m news h tk, vs[i]? = some v → J i m news → Fr h₀ env.locals h m → News h₀ env.locals h ((I, oI) :: news) → (∀ p ∈ news, p.1 ≠ I) → (∀ p ∈ news₀, p.1 < I) →
      wpAny (model prog w) A (assign target env v) (fun _ s₂ => wpAny (model prog w) A (execs body env) (ElsePost h₀ env.locals { s with heap := h, toks := tk } I oI (J (i + 1)) Q) E s₂) E { s with heap := h, toks := tk }) (done : ∀ m news h tk, J vs.length m news → Fr h₀ env.locals h m → News h₀ env.locals h news → wpAny (model prog w) A (execs orelse env) Q E { s with heap := h, toks := tk }) (hs : ∀ x, foldedSetIterable iter env x = pure x) (hE : PassesOwn (model prog w) A env E) : wpAny (model prog w) A (exec (.For target iter body orelse pos) env) Q E s := by
  refine wpAny_For (wpAny_mono hev ?_ fun _ _ e => e) hs
  rintro xv s₁ ⟨rfl, hp, tk, rfl, F, N⟩
  have hax : hp.get? ax = some lo := F.keep _ _ hg
  have hT : hp.IsTuple ax vs.toArray := ⟨lo, hax, hc, n, hd⟩
  have hlt : ax < hp.objs.size := Heap.lt_size hax
  have hne : ax ≠ hp.objs.size := Nat.ne_of_lt hlt
  have hI0 : h₀.get? hp.objs.size = none := next_is_new F
  have hLI : env.locals ≠ hp.objs.size := Nat.ne_of_lt F.ns.lt
  have W := Walks.tuple (prog := prog) (w := w) (A := A) hh hp.objs.size ax hne vs.toArray
  refine wpAny_pyIter_tuple hT ?_
  refine codeAny_forLoop_any (fun k s' => ∃ h' tk m' news' i, s' = { s with heap := h', toks := tk } ∧ (h'.IsTupleIter hp.objs.size ax i ∧ h'.IsTuple ax vs.toArray) ∧ Fr h₀ env.locals h' m' ∧ News h₀ env.locals h' news' ∧ (∀ p ∈ news', p.1 ≠ hp.objs.size) ∧ J i m' news' ∧ i ≤ vs.length ∧ k = vs.length + 1 - i) ?_ (vs.length + 1)
    ⟨_, tk, m₀, news₀, 0, rfl, ⟨⟨_, Heap.get?_push_size _ rfl, rfl, rfl⟩, hT.at fun o e => Heap.get?_push_of_some _ e⟩, F.push _, fun p hp => ⟨Heap.get?_push_of_some _ (N p hp).1, (N p hp).2⟩, fun p hp => Nat.ne_of_lt (Heap.lt_size (N p hp).1), h0, Nat.zero_le _, rfl⟩
  rintro k s' ⟨h', tk', m', news', i, rfl, hst, F', N', ho, hJ, hi, rfl⟩
  have next : ∀ h₁ : Heap, (∀ b o, b ∉ [hp.objs.size] → h'.get? b = some o → h₁.get? b = some o) → Fr h₀ env.locals h₁ m' ∧ News h₀ env.locals h₁ news' := fun h₁ hk₁ =>
    ⟨⟨F'.ns.at' fun o e => hk₁ _ o (fun hm => hLI (List.mem_singleton.mp hm)) e, fun b o e => hk₁ b o (fun hm => by rw [List.mem_singleton.mp hm, hI0] at e; cases e) (F'.keep b o e), F'.above⟩,
      fun p hp => ⟨hk₁ _ _ (fun hm => ho p hp (List.mem_singleton.mp hm)) (N' p hp).1, (N' p hp).2⟩⟩
  by_cases hlt : i < vs.length
  · refine W.item i _ _ _ (by simpa using hlt) hst fun v h₁ tk₁ hP hst₁ hk₁ => ?_
    obtain ⟨F₁, N₁⟩ := next h₁ hk₁
    obtain ⟨oI, hoI, hcI, hdI⟩ := id hst₁.1
    refine letGo_tupleiter hst₁.1 ?_
    have NI : News h₀ env.locals h₁ ((hp.objs.size, oI) :: news') := fun p hp' => by
      rcases List.mem_cons.mp hp' with rfl | hp'
      · exact ⟨hoI, fun e => hLI e.symm, hI0⟩
      · exact N₁ p hp'
    refine wpAny_mono (step hp.objs.size oI i v m' news' h₁ tk₁ (by simpa using hP) hJ F₁ NI ho fun p hp => Heap.lt_size (N p hp).1) (fun _ s₂ h₂ => wpAny_passesOwn hE (wpAny_mono h₂ (fun f s₃ h₃ => ?_) fun _ _ e => e)) hE
    have fin : (∃ h' tk m' news', s₃ = { s with heap := h', toks := tk } ∧ Fr h₀ env.locals h' m' ∧ News h₀ env.locals h' ((hp.objs.size, oI) :: news') ∧ (∀ p ∈ news', p.1 ≠ hp.objs.size) ∧ J (i + 1) m' news') →
        ∃ m, m < vs.length + 1 - i ∧ ∃ h' tk m' news' i, s₃ = { s with heap := h', toks := tk } ∧ (h'.IsTupleIter hp.objs.size ax i ∧ h'.IsTuple ax vs.toArray) ∧ Fr h₀ env.locals h' m' ∧ News h₀ env.locals h' news' ∧ (∀ p ∈ news', p.1 ≠ hp.objs.size) ∧ J i m' news' ∧ i ≤ vs.length ∧ m = vs.length + 1 - i := by
      rintro ⟨h₄, tk₃, m₃, news₃, rfl, F₃, N₃, ho₃, hJ₃⟩
      exact ⟨vs.length + 1 - (i + 1), by omega, h₄, tk₃, m₃, news₃, i + 1, rfl, ⟨⟨oI, (N₃ _ (.head _)).1, hcI, hdI⟩, ⟨lo, F₃.keep _ _ hg, hc, n, hd⟩⟩, F₃, fun p hp => N₃ p (.tail _ hp), ho₃, hJ₃, hlt, rfl⟩
    cases f with
    | ret v => exact h₃
    | brk => exact h₃
    | next => exact fin h₃
    | cont => exact fin h₃
  · have hin : i = vs.length := by omega
    subst hin
    refine W.done _ _ _ (by simpa using hst) fun h₁ tk₁ hk₁ => ?_
    obtain ⟨F₁, N₁⟩ := next h₁ hk₁
    exact wpAny_passesOwn hE (done m' news' h₁ tk₁ hJ F₁ N₁)
theorem fin : epsP epsC := by with_unfolding_all exact fun A hh hg hc hd hev h0 step done hs hE => walk A hh hg hc hd hev h0 step done hs hE
end E_for_else
theorem for_else {prog : Program} {w : World} {A : Around} {E : Value → Shared → Prop} {s : Shared} {env : Env} {h₀ : Heap} {target : Expr} {body orelse : List Stmt} {Q : Flow → Shared → Prop} {iter : Expr} {pos : Pos} {ax : Addr} {lo : Obj} {vs : List Value} {n : Nat} {m₀ : Str → Option Value} {news₀ : Led} (J : Nat → (Str → Option Value) → Led → Prop) (hh : A.handled = none) (hg : h₀.get? ax = some lo) (hc : lo.cls = .type "tuple") (hd : lo.data = .seq vs.toArray n) (hev : wpAny (model prog w) A (eval iter env) (fun xv s₁ => xv = .ref ax ∧ ∃ h' tk, s₁ = { s with heap := h', toks := tk } ∧ Fr h₀ env.locals h' m₀ ∧ News h₀ env.locals h' news₀) E s) (h0 : J 0 m₀ news₀) (step : ∀ I oI i v m news h tk, vs[i]? = some v → J i m news → Fr h₀ env.locals h m → News h₀ env.locals h ((I, oI) :: news) → (∀ p ∈ news, p.1 ≠ I) → (∀ p ∈ news₀, p.1 < I) →
      wpAny (model prog w) A (assign target env v) (fun _ s₂ => wpAny (model prog w) A (execs body env) (ElsePost h₀ env.locals { s with heap := h, toks := tk } I oI (J (i + 1)) Q) E s₂) E { s with heap := h, toks := tk }) (done : ∀ m news h tk, J vs.length m news → Fr h₀ env.locals h m → News h₀ env.locals h news → wpAny (model prog w) A (execs orelse env) Q E { s with heap := h, toks := tk }) (hs : ∀ x, foldedSetIterable iter env x = pure x := by intro _; rfl) (hE : PassesOwn (model prog w) A env E := by passes_own) : wpAny (model prog w) A (exec (.For target iter body orelse pos) env) Q E s := of_worst (P := E_for_else.epsP) (h := E_for_else.epsN) (by with_unfolding_all exact E_for_else.fin) (prog, w, E, s, env, h₀, target, body, orelse, Q, iter, pos, ax, lo, vs, n, m₀, news₀, J) A hh hg hc hd hev h0 step done hs hE
section
variable {prog : Program} {w : World} {A : Around} {E : Value → Shared → Prop} {s : Shared} {env : Env} {h₀ : Heap} {target : Expr} {body orelse : List Stmt} {Q : Flow → Shared → Prop}
theorem unr_end2 {L I I' : Addr} {o o' : Obj} {all news' : Led} {rest : (Str → Option Value) → Led → Prop} {s₁ : Shared} {h' : Heap} {tk : Nat} {m' : Str → Option Value} (F : Fr h₀ L h' m') (N : News h₀ L h' all)
    (h1 : (I, o) ∈ all) (h2 : (I', o') ∈ all) (hs : ∀ p ∈ news', p ∈ all) (off : ∀ p ∈ news', @Ne Nat p.1 I ∧ @Ne Nat p.1 I') (r : rest m' news') : UnrEndW h₀ L s₁ [(I, o), (I', o')] rest { s₁ with heap := h', toks := tk } :=
  ⟨h', tk, m', news', rfl, F, fun p hp => by
    rcases List.mem_append.mp hp with hp | hp
    · rcases List.mem_cons.mp hp with rfl | hp
      · exact N _ h1
      · rw [List.mem_singleton.mp hp]; exact N _ h2
    · exact N p (hs p hp), fun p hp q hq => by
    rcases List.mem_cons.mp hq with rfl | hq
    · exact (off p hp).1
    · rw [List.mem_singleton.mp hq]; exact (off p hp).2, r⟩
theorem off_sub {st st' : List Str} {y : Str} (hy : st.contains y = false) (h : (st'.all fun z => st.contains z) = true) : ¬ st'.contains y = true := fun e => by
  rw [List.contains_iff_mem] at e
  have := List.all_eq_true.mp h y e
  rw [hy] at this; cases this
/-- a for-loop, by what holds of the stored names and of the whole ledger -/
theorem items_st2 {ws : List (Addr × String)} {keep : Led} {xs : List Itm} (st : List Str) (J : Nat → (Str → Option Value) → Led → Prop) {m₀ : Str → Option Value} {news₀ : Led}
    (step : ∀ i a u news, xs[i]? = some a → J i u news → ∀ v h tk, a.Is v h → Fr h₀ env.locals h (fun y => if st.contains y = true then u y else m₀ y) → AllObj ws (fun its => News h₀ env.locals h (its ++ news) →
      wpAny (model prog w) A (assign target env v) (fun _ s₂ => wpAny (model prog w) A (execs body env) (UnrPostW h₀ env.locals { s with heap := h, toks := tk } its
        (fun m' n' => SubL keep n' ∧ (∀ y, st.contains y = false → m' y = m₀ y) ∧ J (i + 1) m' n') Q) E s₂) E { s with heap := h, toks := tk }))
    (done : ∀ u news h tk, J xs.length u news → Fr h₀ env.locals h (fun y => if st.contains y = true then u y else m₀ y) → News h₀ env.locals h news → Q .next { s with heap := h, toks := tk })
    (h0 : J 0 m₀ news₀) : ItemsRest prog w A E h₀ env target body Q s ws keep xs m₀ news₀ := by
  have form : ∀ m' : Str → Option Value, (∀ y, st.contains y = false → m' y = m₀ y) → m' = fun y => if st.contains y = true then m' y else m₀ y := fun m' hm => by
    funext y
    by_cases hy : st.contains y = true
    · rw [if_pos hy]
    · rw [if_neg hy]; exact hm y (by simpa using hy)
  refine items_from0 (fun i m news => (∀ y, st.contains y = false → m y = m₀ y) ∧ J i m news) ?_ ?_ ⟨fun _ _ => rfl, h0⟩
  · rintro i a m news ha ⟨hm, j⟩ v h tk hv F
    have e := form m hm
    rw [e] at F
    exact step i a m news ha j v h tk hv F
  · rintro m news h tk ⟨hm, j⟩ F N
    have e := form m hm
    rw [e] at F
    exact done m news h tk j F N
end
theorem enum_at {vs : List Value} {i : Nat} {a : Itm} (h : (enumItems 0 vs)[i]? = some a) : ∃ v, vs[i]? = some v ∧ a = .pair (fun t => .int (i : Int) t) v := by
  have hi : i < vs.length := by rw [← enumItems_length vs 0]; exact (List.getElem?_eq_some_iff.mp h).1
  have e := enumItems_get vs 0 i (List.getElem?_eq_getElem hi)
  rw [h, Nat.zero_add] at e
  exact ⟨_, List.getElem?_eq_getElem hi, Option.some.inj e⟩
end
section
open PyProof.V PySem.Spec
noncomputable abbrev Ev := Str × Int × Nat
noncomputable def menu : List Str := [Str.ofString "ab", Str.ofString "ac", Str.ofString "b", Str.ofString "AB", Str.ofString "AC", Str.ofString "B"]
noncomputable def ordPos (x : Int) (k : Nat) : Nat := ((x.fdiv 7).fmod ((k : Int) + 1)).toNat
noncomputable def ordStep (ord : List Nat) (p k : Nat) : List Nat := ord.take p ++ k :: ord.drop p
noncomputable def ordN (xs : List Int) : Nat → List Nat
  | 0 => []
  | k + 1 => ordStep (ordN xs k) (ordPos (xs.getD k 0) k) k
noncomputable def heldOf (x : Int) : Int := (x.fdiv 6).fmod 16 * 4096 + (x.fdiv 96).fmod 4096
noncomputable def nameOf (x : Int) : Str := menu.getD (x.fmod 6).toNat Str.empty
noncomputable def evAt (xs : List Int) (k : Nat) : Ev := (nameOf (xs.getD k 0), heldOf (xs.getD k 0), (ordN xs xs.length).idxOf k)
noncomputable def evs (xs : List Int) : List Ev := (List.range xs.length).map (evAt xs)
noncomputable def evD (e : Ev) : Dat := .tuple [.str e.1, .int e.2.1, .int (e.2.2 : Int)]
theorem ordN_len (xs : List Int) : ∀ k, (ordN xs k).length = k
  | 0 => rfl
  | k + 1 => by
    rw [ordN, ordStep, List.length_append, List.length_cons, List.length_take, List.length_drop, ordN_len xs k]
    omega
theorem mem_step {ord : List Nat} {p k j : Nat} : j ∈ ordStep ord p k ↔ j = k ∨ j ∈ ord := by
  unfold ordStep
  rw [List.mem_append, List.mem_cons]
  constructor
  · rintro (h | h | h)
    · exact .inr (List.mem_of_mem_take h)
    · exact .inl h
    · exact .inr (List.mem_of_mem_drop h)
  · rintro (h | h)
    · exact .inr (.inl h)
    · rw [← List.take_append_drop p ord, List.mem_append] at h
      rcases h with h | h
      · exact .inl h
      · exact .inr (.inr h)
theorem mem_ordN (xs : List Int) : ∀ {k j}, j ∈ ordN xs k ↔ j < k
  | 0, j => by simp [ordN]
  | k + 1, j => by rw [ordN, mem_step, mem_ordN xs]; omega
theorem ordN_nodup (xs : List Int) : ∀ k, (ordN xs k).Nodup
  | 0 => List.nodup_nil
  | k + 1 => by
    have h := ordN_nodup xs k
    have hk : k ∉ ordN xs k := fun e => Nat.lt_irrefl _ ((mem_ordN xs).mp e)
    rw [ordN, ordStep]
    rw [← List.take_append_drop (ordPos (xs.getD k 0) k) (ordN xs k)] at h hk
    refine (List.perm_middle.nodup_iff).mpr (List.nodup_cons.mpr ⟨hk, h⟩)
theorem evs_len (xs : List Int) : (evs xs).length = xs.length := by unfold evs; rw [List.length_map, List.length_range]
theorem evs_step (xs : List Int) {i : Nat} : (List.range (i + 1)).map (evAt xs) = (List.range i).map (evAt xs) ++ [evAt xs i] := by
  rw [List.range_succ, List.map_append]; rfl
theorem hour_lt (xs : List Int) {k : Nat} (h : k < xs.length) : (ordN xs xs.length).idxOf k < xs.length := by
  have := List.idxOf_lt_length_iff.mpr ((mem_ordN xs).mpr h)
  rwa [ordN_len] at this
theorem held_bounds (x : Int) : 0 ≤ heldOf x ∧ heldOf x < 65536 := by
  unfold heldOf
  have h1 := Int.fmod_nonneg_of_pos (x.fdiv 6) (show (0 : Int) < 16 by decide)
  have h2 := Int.fmod_lt_of_pos (x.fdiv 6) (show (0 : Int) < 16 by decide)
  have h3 := Int.fmod_nonneg_of_pos (x.fdiv 96) (show (0 : Int) < 4096 by decide)
  have h4 := Int.fmod_lt_of_pos (x.fdiv 96) (show (0 : Int) < 4096 by decide)
  omega
end
end
end
end
theorem sweepP17a {M : Model} {A : Around} {env : Env} {Q : Flow → Shared → Prop} {E : Value → Shared → Prop} {s : Shared} (h : wpAny M A (execs [] env) Q E s) : wpAny M A (execs [] env) Q E s := by w_top off; first | (walk1; fail "swept") | exact h
section
open PyProof.V PySem.Spec
local macro_rules | `(tactic| walk_at "LeaveK") => `(tactic| k_extra "mv6")
local macro_rules | `(tactic| walk_at "LeaveK") => `(tactic| k_extra "mv1")
section
open PyProof.V PySem.Spec
local macro_rules | `(tactic| walk_at "UnrEndW") => `(tactic| k_extra "mv7")
local macro_rules | `(tactic| walk_at "UnrEndW") => `(tactic| refine Paused.intro ?_)
section
open PyProof.V PySem.Spec
local macro_rules | `(tactic| walk_at "exec For Tuple Call cons nil") => `(tactic| refine Paused.intro ?_)
section
open PyProof.V PySem.Spec
local macro_rules | `(tactic| k_all) => `(tactic| k_extra "mk1")
local macro_rules | `(tactic| k_all) => `(tactic| k_extra "mk3")
section
open PyProof.V PySem.Spec
local macro_rules | `(tactic| walk_at "call builtin:list.append") => `(tactic| refine Paused.intro ?_)
section
open PyProof.V PySem.Spec
local macro_rules | `(tactic| walk_at "mine frame") => `(tactic| (rename_i y9 hy9; (repeat first | rw [if_neg (off_st hy9 (by decide +kernel))] | rw [if_neg (off_in hy9)])))
theorem sweepP17 {M : Model} {A : Around} {env : Env} {Q : Flow → Shared → Prop} {E : Value → Shared → Prop} {s : Shared} (h : wpAny M A (execs [] env) Q E s) : wpAny M A (execs [] env) Q E s := by w_top off; first | (walk1; fail "swept") | exact h
section
open PyProof.V PySem.Spec
theorem kf_ints_of {vs : List Value} {ns : List Int} (h : IntsAre vs ns) : kf_ints vs = true := by
  induction h with
  | nil => rfl
  | cons n t h ih => exact ih
theorem idx_ne {n k : Nat} {ns : List Nat} (e : ¬ n = k) : (n :: ns).idxOf k = ns.idxOf k + 1 := by rw [List.idxOf_cons, show (n == k) = false from beq_eq_false_iff_ne.mpr e]; rfl
theorem kf_at_of {k : Nat} : ∀ {vs : List Value} {ns : List Nat}, IntsAre vs (ns.map Int.ofNat) → k ∈ ns → kf_at (k : Int) vs = some (ns.idxOf k)
  | _, [], _, hk => nomatch hk
  | _, n :: ns, .cons _ t h, hk => by
    by_cases e : n = k
    · subst e
      have e1 : isInt (n : Int) (.int (Int.ofNat n) t) = true := beq_self_eq_true (n : Int)
      rw [List.idxOf_cons_self, kf_at, e1]
      rfl
    · have e1 : isInt (k : Int) (.int (Int.ofNat n) t) = false := beq_eq_false_iff_ne.mpr fun q => e (Int.ofNat.inj q)
      rw [kf_at, e1, idx_ne e, kf_at_of h ((List.mem_cons.mp hk).resolve_left fun q => e q.symm)]
      rfl
theorem ins_ints {vs : List Value} {ns : List Nat} {k : Nat} {t : Tok} {x : Int} (h : IntsAre vs (ns.map Int.ofNat)) (h0 : 0 ≤ x) (h1 : x.toNat ≤ ns.length) : IntsAre (kl_ins vs x (.int (k : Int) t)) ((ordStep ns x.toNat k).map Int.ofNat) := by
  have hl := h.length
  rw [List.length_map] at hl
  unfold kl_ins ordStep
  rw [if_neg (Int.not_lt.mpr h0), Nat.min_eq_left (by omega), List.map_append, List.map_cons, List.map_take, List.map_drop]
  exact IntsAre.append (h.take _) (.cons _ _ (h.drop _))
namespace E_events_spec
noncomputable def epsP (q : (World × Addr × (List Value) × Nat × (List Int)) × Cx) : Prop := (fun (w : World) (l : Addr) (vs : List Value) (n : Nat) (xs : List Int) (cx9 : Cx) => ∀ (hi : IntsAre vs xs) (hlen : xs.length ≤ 20), CtrAt w 289 [.ref l] [] 3 40 [(l, W.listOf vs.toArray n)] (Listed [(l, W.listOf vs.toArray n)] ((evs xs).map evD))  cx9) q.1.1 q.1.2.1 q.1.2.2.1 q.1.2.2.2.1 q.1.2.2.2.2 q.2
theorem epsN : Nonempty ((World × Addr × (List Value) × Nat × (List Int)) × Cx) := ⟨((Classical.choice neWorld, default, default, default, default), Classical.choice neCx)⟩
@[irreducible] noncomputable def epsC : (World × Addr × (List Value) × Nat × (List Int)) × Cx := worst epsN epsP
@[irreducible] noncomputable def w : World := epsC.1.1
@[irreducible] noncomputable def l : Addr := epsC.1.2.1
@[irreducible] noncomputable def vs : List Value := epsC.1.2.2.1
@[irreducible] noncomputable def n : Nat := epsC.1.2.2.2.1
@[irreducible] noncomputable def xs : List Int := epsC.1.2.2.2.2
noncomputable def ent : (TT9 : Heap → Addr → Heap → Prop) ×' (∀ (hi : IntsAre vs xs) (hlen : xs.length ≤ 20), Hid (∀ x0 x1 x2, TT9 x0 x1 x2) → CtrAt w 289 [.ref l] [] 3 40 [(l, W.listOf vs.toArray n)] (Listed [(l, W.listOf vs.toArray n)] ((evs xs).map evD))  epsC.2) :=
  ⟨_, fun hi hlen H => by
    intro cxB cxF cxX cxN cxT cxk cxd cxu cxr
    ((refine wpAny_call ?_; k_dflt (refine' code_defG ?z29k1 ?z29k2 ?z29k3 ?z29k4 ?z29k5 ?z29kA ?z29kF ?z29kK ?z29k6 ?z29k7 ?z29k8 ?z29k9 ?z29kB ?_ ?z29c2 ?z29c3 ?z29c4 ?z29c5; (case z29kA => exact rfl); (case z29kF => exact rfl); (case z29kK => assumption); (case z29k1 => k_asm); (case z29k2 => k_asm); (case z29k3 => k_asm); (case z29k4 => k_asm); (case z29k5 => k_asm); (case z29k6 => k_is); (case z29k7 => k_is); (case z29k8 => ktr_room); (case z29k9 => first | exact BindsTo.of_eq rfl | exact binds_K (by k_in) rfl (by k_is) rfl rfl rfl | fail "mine enter: no rule for these arguments"); (case z29c5 => decide); (case z29kB => exact locs rfl); (case z29c2 => exact rfl); (case z29c3 => exact rfl); (case z29c4 => exact rfl); k_whole)))
    exact H.out⟩
theorem entN : Nonempty (Heap × Addr × Heap) := ⟨(default, 0, default)⟩
noncomputable def entP (q : Heap × Addr × Heap) : Prop := ent.1 q.1 q.2.1 q.2.2
@[irreducible] noncomputable def entC : Heap × Addr × Heap := worst entN entP
@[irreducible] noncomputable def gE : Heap := entC.1
@[irreducible] noncomputable def LE : Addr := entC.2.1
@[irreducible] noncomputable def hE : Heap := entC.2.2
theorem walk (hi : IntsAre vs xs) (hlen : xs.length ≤ 20) : CtrTo w 289 [.ref l] [] 3 40 [(l, W.listOf vs.toArray n)] (Listed [(l, W.listOf vs.toArray n)] ((evs xs).map evD))  epsC.2 (ent.1 gE LE hE) := by
  (intro cxB cxF cxX cxN cxT cxk cxd cxu cxr); walk_at "mine pure1"
  k_steps
  unfold Paused
  refine For_turns (by assumption) ?_
  k_steps
  have hvl := hi.length
  refine ktu_enum (by exact rfl) (by assumption) (by assumption) (by k_mem) rfl rfl rfl (fun I hI => ?_)
  refine items_st2 [Str.ofString "k", Str.ofString "x"] (fun i _ news => ∃ n' its, news = [_, _, (_, W.listOf its n'), _] ∧ IntsAre its.toList ((ordN xs i).map Int.ofNat)) ?step ?done ⟨_, _, rfl, .nil⟩
  case step =>
    rintro i a9 u news ha ⟨n9, its, rfl, hs9⟩ v9 h9 tk9 hv9 F9
    refine AllObj.cons (fun o9 c9 => AllObj.cons fun o8 c8 => AllObj.nil (fun N9 => ?_))
    obtain ⟨vT, hvT, rfl⟩ := enum_at ha
    obtain ⟨T9, t9, rfl, hT9⟩ := hv9
    obtain ⟨x9, t8, rfl, hx9⟩ := hi.at i vT hvT
    have hi2 : i < xs.length := (List.getElem?_eq_some_iff.mp hx9).1
    have hsz : its.size = i := by rw [← Array.length_toList, hs9.length, List.length_map, ordN_len]
    have hI2 := hI
    k_lt hI2
    dsimp only [List.cons_append, List.nil_append] at N9
    k_steps
    have hp0 : 0 ≤ (x9.fdiv 7).fmod ((i : Int) + 1) := Int.fmod_nonneg_of_pos _ (by omega)
    have hp1 : (x9.fdiv 7).fmod ((i : Int) + 1) < (i : Int) + 1 := Int.fmod_lt_of_pos _ (by omega)
    have hx8 : xs.getD i 0 = x9 := by rw [List.getD_eq_getElem?_getD, hx9]; rfl
    refine' kl_insert (by assumption) (by assumption) ?f rfl ?U ?z ?_
    case U => k_upd
    case f => unfold Builtin.List.listFitsIndex; simp only [Bool.and_eq_true, decide_eq_true_eq]; omega
    case z => rw [Array.length_toList, sizeLine_eq]; omega
    intro h8 F8 N8
    k_steps
    unfold Paused
    refine' unr_end2 (by assumption) (by assumption) (by k_mem) (by k_mem) ?h1 ?h2 ⟨⟨by k_mem, trivial⟩, ?fr, _, _, rfl, ?fin⟩
    case h1 => exact List.forall_mem_cons.mpr ⟨by k_mem, List.forall_mem_cons.mpr ⟨by k_mem, List.forall_mem_cons.mpr ⟨by k_mem, List.forall_mem_cons.mpr ⟨by k_mem, List.forall_mem_nil _⟩⟩⟩⟩
    case h2 => exact List.forall_mem_cons.mpr ⟨⟨by k_ne, by k_ne⟩, List.forall_mem_cons.mpr ⟨⟨by k_ne, by k_ne⟩, List.forall_mem_cons.mpr ⟨⟨by k_ne, by k_ne⟩, List.forall_mem_cons.mpr ⟨⟨by k_ne, by k_ne⟩, List.forall_mem_nil _⟩⟩⟩⟩
    case fr => intro y hy; walk_at "mine frame"
    case fin =>
      rw [ordN, hx8]
      exact ins_ints hs9 hp0 (by rw [ordN_len]; omega)
  case done =>
    rintro u news h9 tk9 ⟨n9, its, rfl, hs9⟩ F9 N9
    rw [enumItems_length, hvl] at hs9
    have hsz : its.size = xs.length := by rw [← Array.length_toList, hs9.length, List.length_map, ordN_len]
    k_steps
    unfold Paused
    refine For_turns (by assumption) ?_
    k_steps
    clear hI I
    refine ktu_enum (by exact rfl) (by assumption) (by assumption) (by k_mem) rfl rfl rfl (fun I hI => ?_)
    refine items_st2 [Str.ofString "k", Str.ofString "x", Str.ofString "name"] (fun i _ news => ∃ n' ys add, news = _ :: (_, W.listOf (List.toArray ys) n') :: (_, W.listOf its n9) :: _ :: add ∧ (∀ p ∈ add, @LT.lt Nat _ (I + 1) p.1) ∧ DatAll add ys (((List.range i).map (evAt xs)).map evD)) ?step2 ?done2 ⟨_, [], [], rfl, List.forall_mem_nil _, .nil⟩
    case step2 =>
      rintro i a9 u news ha ⟨n8, ys, add, rfl, hadd, hys⟩ v9 h9 tk9 hv9 F9
      refine AllObj.cons (fun o9 c9 => AllObj.cons fun o8 c8 => AllObj.nil (fun N9 => ?_))
      obtain ⟨vT, hvT, rfl⟩ := enum_at ha
      obtain ⟨T9, t9, rfl, hT9⟩ := hv9
      obtain ⟨x9, t8, rfl, hx9⟩ := hi.at i vT hvT
      have hi2 : i < xs.length := (List.getElem?_eq_some_iff.mp hx9).1
      have hysl : ys.length = i := by rw [hys.length, List.length_map, List.length_map, List.length_range]
      have hI2 := hI
      k_lt hI2
      dsimp only [List.cons_append, List.nil_append] at N9
      (k_with "table" => skip)
      k_steps
      refine kf_index (by assumption) (by k_mem) (kf_ints_of hs9) (kf_at_of hs9 ((mem_ordN xs).mpr hi2)) rfl (by rw [Array.length_toList, sizeLine_eq]; omega) ?_
      dsimp only
      k_steps
      unfold Paused
      refine' append_K (by assumption) (by assumption) ?U ?_ ?z
      case U => k_upd
      case z => rw [List.size_toArray, hysl, sizeLine_eq]; omega
      intro h8 F8 N8
      k_steps
      unfold Paused
      refine unr_end2 (by assumption) (by assumption) (by k_mem) (by k_mem) (List.forall_mem_cons.mpr ⟨by k_mem, List.forall_mem_cons.mpr ⟨by rw [← List.push_toArray]; k_mem, List.forall_mem_cons.mpr ⟨by k_mem, List.forall_mem_cons.mpr ⟨by k_mem, List.forall_mem_cons.mpr ⟨by k_mem, fun p hp => by simp only [List.mem_cons, hp, or_true]⟩⟩⟩⟩⟩) ?h2 ⟨⟨by k_mem, trivial⟩, ?fr, _, ys ++ [_], (_, _) :: add, rfl, ?hadd, ?fin⟩
      case h2 => exact List.forall_mem_cons.mpr ⟨⟨by k_ne, by k_ne⟩, List.forall_mem_cons.mpr ⟨⟨by k_ne, by k_ne⟩, List.forall_mem_cons.mpr ⟨⟨by k_ne, by k_ne⟩, List.forall_mem_cons.mpr ⟨⟨by k_ne, by k_ne⟩, List.forall_mem_cons.mpr ⟨⟨by k_ne, by k_ne⟩, fun p hp => ⟨Nat.ne_of_gt (hadd p hp), Nat.ne_of_gt (Nat.lt_of_succ_lt (hadd p hp))⟩⟩⟩⟩⟩⟩
      case fr => intro y hy; walk_at "mine frame"
      case hadd => exact List.forall_mem_cons.mpr ⟨by dsimp only; omega, hadd⟩
      case fin =>
        have hx8 : xs.getD i 0 = x9 := by rw [List.getD_eq_getElem?_getD, hx9]; rfl
        rw [evs_step, List.map_append]
        refine DatAll.append (hys.mono fun p hp => List.mem_cons_of_mem _ hp) (DatAll.one (DatIn.tuple (vs := [_, _, _]) List.mem_cons_self ?_))
        unfold evAt
        rw [hx8]
        exact .cons (.str _ _) (.cons (.int _ _) (.cons (.int _ _) .nil))
    case done2 =>
      rintro u news h9 tk9 ⟨n8, ys, add, rfl, hadd, hys⟩ F9 N9
      k_steps
      rw [enumItems_length, hvl] at hys
      exact ⟨_, ys, n8, rfl, hys.mono fun p hp => by simp only [List.mem_cons, hp, or_true], List.forall_mem_cons.mpr ⟨by k_mem, List.forall_mem_cons.mpr ⟨by k_mem, List.forall_mem_nil _⟩⟩⟩
theorem walk2 (hi : IntsAre vs xs) (hlen : xs.length ≤ 20) : CtrTo w 289 [.ref l] [] 3 40 [(l, W.listOf vs.toArray n)] (Listed [(l, W.listOf vs.toArray n)] ((evs xs).map evD))  epsC.2 (entP entC) := by with_unfolding_all exact walk hi hlen
theorem fin : epsP epsC := by
  with_unfolding_all exact fun hi hlen cxB cxF cxX cxN cxT cxk cxd cxu cxr => ent.2 hi hlen ⟨fun x0 x1 x2 => of_worst (P := entP) (h := entN) (by with_unfolding_all exact walk2 hi hlen cxB cxF cxX cxN cxT cxk cxd cxu cxr) (x0, x1, x2)⟩ cxB cxF cxX cxN cxT cxk cxd cxu cxr
end E_events_spec
theorem events_spec (w : World) (l : Addr) (vs : List Value) (n : Nat) (xs : List Int) (hi : IntsAre vs xs) (hlen : xs.length ≤ 20) : Ctr w 289 [.ref l] [] 3 40 [(l, W.listOf vs.toArray n)] (Listed [(l, W.listOf vs.toArray n)] ((evs xs).map evD)) := ctr_of fun c9 => of_worst (P := E_events_spec.epsP) (h := E_events_spec.epsN) (by with_unfolding_all exact E_events_spec.fin) ((w, l, vs, n, xs), c9) hi hlen
end
end
end
end
theorem sweepP16a {M : Model} {A : Around} {env : Env} {Q : Flow → Shared → Prop} {E : Value → Shared → Prop} {s : Shared} (h : wpAny M A (execs [] env) Q E s) : wpAny M A (execs [] env) Q E s := by w_top off; first | (walk1; fail "swept") | exact h
section
open PyProof.V PySem.Spec
local macro_rules | `(tactic| k_all) => `(tactic| k_extra "mk1")
section
open PyProof.V PySem.Spec
local macro_rules | `(tactic| walk_at "call ref") => `(tactic| k_extra "mv22")
section
open PyProof.V PySem.Spec
local macro_rules | `(tactic| walk_at "mine frame") => `(tactic| (rename_i y9 hy9; (repeat first | rw [if_neg (off_st hy9 (by decide +kernel))] | rw [if_neg (off_in hy9)] | rw [if_neg (off_sub (st' := [Str.ofString "bit", Str.ofString "char"]) hy9 (by decide +kernel))])))
theorem sweepP16 {M : Model} {A : Around} {env : Env} {Q : Flow → Shared → Prop} {E : Value → Shared → Prop} {s : Shared} (h : wpAny M A (execs [] env) Q E s) : wpAny M A (execs [] env) Q E s := by w_top off; first | (walk1; fail "swept") | exact h
section
open PyProof.V PySem.Spec
section
variable {prog : Program} {w : World} {A : Around} {E : Value → Shared → Prop} {s : Shared} {env : Env} {h₀ : Heap} {target : Expr} {body orelse : List Stmt} {Q : Flow → Shared → Prop}
theorem for_else_st {iter : Expr} {pos : Pos} {ax : Addr} {lo : Obj} {vs : List Value} {n : Nat} {m₀ : Str → Option Value} {news₀ : Led} (st : List Str) (J : Nat → Prop)
    (hh : A.handled = none) (hg : h₀.get? ax = some lo) (hc : lo.cls = .type "tuple") (hd : lo.data = .seq vs.toArray n)
    (F₀ : Fr h₀ env.locals s.heap m₀) (N₀ : News h₀ env.locals s.heap news₀) (hev : wpAny (model prog w) A (eval iter env) (fun xv s₁ => xv = .ref ax ∧ ∃ tk, s₁ = { s with toks := tk }) E s)
    (h0 : J 0)
    (step : ∀ I oI i v (u : Str → Option Value) h tk, vs[i]? = some v → J i → Fr h₀ env.locals h (fun y => if st.contains y = true then u y else m₀ y) → News h₀ env.locals h ((I, oI) :: news₀) → (∀ p ∈ news₀, p.1 < I) →
      wpAny (model prog w) A (assign target env v) (fun _ s₂ => wpAny (model prog w) A (execs body env) (ElsePost h₀ env.locals { s with heap := h, toks := tk } I oI (fun m' n' => (∀ y, st.contains y = false → m' y = m₀ y) ∧ n' = news₀ ∧ J (i + 1)) Q) E s₂) E { s with heap := h, toks := tk })
    (done : ∀ (u : Str → Option Value) h tk, J vs.length → Fr h₀ env.locals h (fun y => if st.contains y = true then u y else m₀ y) → News h₀ env.locals h news₀ → wpAny (model prog w) A (execs orelse env) Q E { s with heap := h, toks := tk })
    (hs : ∀ x, foldedSetIterable iter env x = pure x := by intro _; rfl)
    (hE : PassesOwn (model prog w) A env E := by passes_own) :
    wpAny (model prog w) A (exec (.For target iter body orelse pos) env) Q E s := by
  have form : ∀ m' : Str → Option Value, (∀ y, st.contains y = false → m' y = m₀ y) → m' = fun y => if st.contains y = true then m' y else m₀ y := fun m' hm => by
    funext y
    by_cases hy : st.contains y = true
    · rw [if_pos hy]
    · rw [if_neg hy]; exact hm y (by simpa using hy)
  refine for_else (fun i m news => (∀ y, st.contains y = false → m y = m₀ y) ∧ news = news₀ ∧ J i) hh hg hc hd (wpAny_mono hev (fun _ _ ⟨e1, tk, e2⟩ => ⟨e1, s.heap, tk, e2, F₀, N₀⟩) fun _ _ e => e) ⟨fun _ _ => rfl, rfl, h0⟩ ?_ ?_ hs hE
  · rintro I oI i v m news h tk hv ⟨hm, rfl, j⟩ F N _ ho
    have e := form m hm
    rw [e] at F
    exact step I oI i v m h tk hv j F N ho
  · rintro m news h tk ⟨hm, rfl, j⟩ F N
    have e := form m hm
    rw [e] at F
    exact done m h tk j F N
end
noncomputable abbrev S1 (x : String) : Str := Str.ofString x
noncomputable def modeTab : List (List (Int × Str)) :=
  [[(40960, S1 "l"), (49152, S1 "s"), (32768, S1 "-"), (24576, S1 "b"), (16384, S1 "d"), (8192, S1 "c"), (4096, S1 "p")], [(256, S1 "r")], [(128, S1 "w")], [(2112, S1 "s"), (2048, S1 "S"), (64, S1 "x")],
   [(32, S1 "r")], [(16, S1 "w")], [(1032, S1 "s"), (1024, S1 "S"), (8, S1 "x")], [(4, S1 "r")], [(2, S1 "w")], [(513, S1 "t"), (512, S1 "T"), (1, S1 "x")]]
noncomputable def pick (x : Int) (i : Nat) (prs : List (Int × Str)) : Str :=
  if i = 0 then match prs.find? fun p => Builtin.bitAnd x 61440 == p.1 with | some p => p.2 | none => S1 "?"
  else match prs.find? fun p => Builtin.bitAnd x p.1 == p.1 with | some p => p.2 | none => S1 "-"
noncomputable def picks (x : Int) : List Str := modeTab.mapIdx fun i prs => pick x i prs
noncomputable def modeStr (x : Int) : Str := Txt.join (S1 "") (picks x)
noncomputable def PairsIn (h : Heap) : List Value → List (Int × Str) → Prop
  | [], [] => True
  | v :: vs, p :: ps => (∃ b t u n, v = .ref b ∧ h.get? b = some ({ cls := .type "tuple", data := .seq #[.int p.1 t, .str p.2 u] n } : Obj)) ∧ PairsIn h vs ps
  | _, _ => False
theorem PairsIn.at {h : Heap} : ∀ {vs : List Value} {ps : List (Int × Str)} {i : Nat} {v : Value}, PairsIn h vs ps → vs[i]? = some v → ∃ p b t u n, ps[i]? = some p ∧ v = .ref b ∧ h.get? b = some ({ cls := .type "tuple", data := .seq #[.int p.1 t, .str p.2 u] n } : Obj)
  | [], [], _, _, _, e => by cases e
  | _ :: _, p :: _, 0, _, h, e => by cases e; obtain ⟨b, t, u, n, e1, e2⟩ := h.1; exact ⟨p, b, t, u, n, rfl, e1, e2⟩
  | _ :: _, _ :: _, i + 1, _, h, e => PairsIn.at (i := i) h.2 e
theorem PairsIn.length {h : Heap} : ∀ {vs : List Value} {ps : List (Int × Str)}, PairsIn h vs ps → vs.length = ps.length
  | [], [], _ => rfl
  | _ :: _, _ :: _, h => congrArg (· + 1) (PairsIn.length h.2)
noncomputable abbrev tabVals : List Value := [.ref 250, .ref 252, .ref 254, .ref 258, .ref 260, .ref 262, .ref 266, .ref 268, .ref 270, .ref 274]
theorem tab_at {P : Params} {h₀ : Heap} (X : (K P).In h₀) {i : Nat} {v : Value} (hv : tabVals[i]? = some v) :
    ∃ ax lo vs n prs, v = .ref ax ∧ modeTab[i]? = some prs ∧ h₀.get? ax = some lo ∧ lo.cls = .type "tuple" ∧ lo.data = .seq (List.toArray vs) n ∧ PairsIn h₀ vs prs := by
  match i, hv with
  | 0, hv => cases hv; refine ⟨_, _, _, _, _, rfl, rfl, X _ _ (by k_is), rfl, rfl, ?_⟩; exact ⟨⟨_, _, _, _, rfl, X _ _ (by k_is)⟩, ⟨_, _, _, _, rfl, X _ _ (by k_is)⟩, ⟨_, _, _, _, rfl, X _ _ (by k_is)⟩, ⟨_, _, _, _, rfl, X _ _ (by k_is)⟩, ⟨_, _, _, _, rfl, X _ _ (by k_is)⟩, ⟨_, _, _, _, rfl, X _ _ (by k_is)⟩, ⟨_, _, _, _, rfl, X _ _ (by k_is)⟩, trivial⟩
  | 1, hv => cases hv; refine ⟨_, _, _, _, _, rfl, rfl, X _ _ (by k_is), rfl, rfl, ?_⟩; exact ⟨⟨_, _, _, _, rfl, X _ _ (by k_is)⟩, trivial⟩
  | 2, hv => cases hv; refine ⟨_, _, _, _, _, rfl, rfl, X _ _ (by k_is), rfl, rfl, ?_⟩; exact ⟨⟨_, _, _, _, rfl, X _ _ (by k_is)⟩, trivial⟩
  | 3, hv => cases hv; refine ⟨_, _, _, _, _, rfl, rfl, X _ _ (by k_is), rfl, rfl, ?_⟩; exact ⟨⟨_, _, _, _, rfl, X _ _ (by k_is)⟩, ⟨_, _, _, _, rfl, X _ _ (by k_is)⟩, ⟨_, _, _, _, rfl, X _ _ (by k_is)⟩, trivial⟩
  | 4, hv => cases hv; refine ⟨_, _, _, _, _, rfl, rfl, X _ _ (by k_is), rfl, rfl, ?_⟩; exact ⟨⟨_, _, _, _, rfl, X _ _ (by k_is)⟩, trivial⟩
  | 5, hv => cases hv; refine ⟨_, _, _, _, _, rfl, rfl, X _ _ (by k_is), rfl, rfl, ?_⟩; exact ⟨⟨_, _, _, _, rfl, X _ _ (by k_is)⟩, trivial⟩
  | 6, hv => cases hv; refine ⟨_, _, _, _, _, rfl, rfl, X _ _ (by k_is), rfl, rfl, ?_⟩; exact ⟨⟨_, _, _, _, rfl, X _ _ (by k_is)⟩, ⟨_, _, _, _, rfl, X _ _ (by k_is)⟩, ⟨_, _, _, _, rfl, X _ _ (by k_is)⟩, trivial⟩
  | 7, hv => cases hv; refine ⟨_, _, _, _, _, rfl, rfl, X _ _ (by k_is), rfl, rfl, ?_⟩; exact ⟨⟨_, _, _, _, rfl, X _ _ (by k_is)⟩, trivial⟩
  | 8, hv => cases hv; refine ⟨_, _, _, _, _, rfl, rfl, X _ _ (by k_is), rfl, rfl, ?_⟩; exact ⟨⟨_, _, _, _, rfl, X _ _ (by k_is)⟩, trivial⟩
  | 9, hv => cases hv; refine ⟨_, _, _, _, _, rfl, rfl, X _ _ (by k_is), rfl, rfl, ?_⟩; exact ⟨⟨_, _, _, _, rfl, X _ _ (by k_is)⟩, ⟨_, _, _, _, rfl, X _ _ (by k_is)⟩, ⟨_, _, _, _, rfl, X _ _ (by k_is)⟩, trivial⟩
  | n + 10, hv => cases hv
theorem pick_zero {x : Int} {prs : List (Int × Str)} : pick x 0 prs = match prs.find? fun p => Builtin.bitAnd x 61440 == p.1 with | some p => p.2 | none => S1 "?" := rfl
theorem pick_succ {x : Int} {i : Nat} (hi : ¬ i = 0) {prs : List (Int × Str)} : pick x i prs = match prs.find? fun p => Builtin.bitAnd x p.1 == p.1 with | some p => p.2 | none => S1 "-" := if_neg hi
theorem find_at {α : Type} {f : α → Bool} {l : List α} {j : Nat} {p : α} (h1 : (l.take j).find? f = none) (h2 : l[j]? = some p) (h3 : f p = true) : l.find? f = some p := by
  have e : l = l.take j ++ p :: l.drop (j + 1) := by
    obtain ⟨hj1, hj2⟩ := List.getElem?_eq_some_iff.mp h2
    rw [← hj2, ← List.drop_eq_getElem_cons hj1, List.take_append_drop]
  rw [e, List.find?_append, h1, List.find?_cons, h3]
  rfl
theorem find_no {α : Type} {f : α → Bool} {l : List α} {j : Nat} {p : α} (h1 : (l.take j).find? f = none) (h2 : l[j]? = some p) (h3 : f p = false) : (l.take (j + 1)).find? f = none := by
  rw [List.take_add_one, h2, List.find?_append, h1, Option.toList_some, List.find?_cons, h3]
  rfl
theorem picks_step {x : Int} {i : Nat} {prs : List (Int × Str)} (h : modeTab[i]? = some prs) : (picks x).take (i + 1) = (picks x).take i ++ [pick x i prs] := by
  rw [List.take_add_one]
  congr 1
  unfold picks
  rw [List.getElem?_mapIdx, h]
  rfl
theorem picks_len (x : Int) : (picks x).length = 10 := by unfold picks; rw [List.length_mapIdx]; rfl
theorem pick_len (x : Int) (i : Nat) (prs : List (Int × Str)) (h : ∀ p ∈ prs, p.2.length = 1) : (pick x i prs).length = 1 := by
  have q : ∀ (f : Int × Str → Bool) (d : Str), d.length = 1 → (match prs.find? f with | some p => p.2 | none => d).length = 1 := fun f d hd => by
    cases e : prs.find? f with
    | none => exact hd
    | some p => exact h p (List.mem_of_find?_eq_some e)
  unfold pick
  split
  · exact q _ _ (by decide +kernel)
  · exact q _ _ (by decide +kernel)
theorem tab_one : ∀ prs ∈ modeTab, ∀ p ∈ prs, p.2.length = 1 := by decide +kernel
theorem pick_size (x : Int) : ((picks x).map (·.length)).sum + (picks x).length * (Str.ofString "").length ≤ 16777216 := by
  have h : ∀ l : List Nat, (∀ n ∈ l, n = 1) → l.sum = l.length := fun l hl => by
    induction l with
    | nil => rfl
    | cons a l ih => rw [List.sum_cons, ih fun n hn => hl n (.tail _ hn), hl a (.head _), List.length_cons]; omega
  have e : (Str.ofString "").length = 0 := by decide +kernel
  rw [e, h, List.length_map, picks_len]
  · decide
  · intro n hn
    obtain ⟨y, hy, rfl⟩ := List.mem_map.mp hn
    unfold picks at hy
    obtain ⟨i, hi, rfl⟩ := List.mem_mapIdx.mp hy
    exact pick_len _ _ _ (tab_one _ (List.getElem_mem _))
namespace E_mode_spec
noncomputable def epsP (q : (World × Int × Tok) × Cx) : Prop := (fun (w : World) (x : Int) (t : Tok) (cx9 : Cx) => CtrAt w 282 [.int x t] [] 3 40 [] (IsStr (modeStr x))  cx9) q.1.1 q.1.2.1 q.1.2.2 q.2
theorem epsN : Nonempty ((World × Int × Tok) × Cx) := ⟨((Classical.choice neWorld, default, default), Classical.choice neCx)⟩
@[irreducible] noncomputable def epsC : (World × Int × Tok) × Cx := worst epsN epsP
@[irreducible] noncomputable def w : World := epsC.1.1
@[irreducible] noncomputable def x : Int := epsC.1.2.1
@[irreducible] noncomputable def t : Tok := epsC.1.2.2
noncomputable def ent : (TT9 : Heap → Addr → Heap → Prop) ×' (Hid (∀ x0 x1 x2, TT9 x0 x1 x2) → CtrAt w 282 [.int x t] [] 3 40 [] (IsStr (modeStr x))  epsC.2) :=
  ⟨_, fun  H => by
    intro cxB cxF cxX cxN cxT cxk cxd cxu cxr
    ((refine wpAny_call ?_; k_dflt (refine' code_defG ?z30k1 ?z30k2 ?z30k3 ?z30k4 ?z30k5 ?z30kA ?z30kF ?z30kK ?z30k6 ?z30k7 ?z30k8 ?z30k9 ?z30kB ?_ ?z30c2 ?z30c3 ?z30c4 ?z30c5; (case z30kA => exact rfl); (case z30kF => exact rfl); (case z30kK => assumption); (case z30k1 => k_asm); (case z30k2 => k_asm); (case z30k3 => k_asm); (case z30k4 => k_asm); (case z30k5 => k_asm); (case z30k6 => k_is); (case z30k7 => k_is); (case z30k8 => ktr_room); (case z30k9 => first | exact BindsTo.of_eq rfl | exact binds_K (by k_in) rfl (by k_is) rfl rfl rfl | fail "mine enter: no rule for these arguments"); (case z30c5 => decide); (case z30kB => exact locs rfl); (case z30c2 => exact rfl); (case z30c3 => exact rfl); (case z30c4 => exact rfl); k_whole)))
    exact H.out⟩
theorem entN : Nonempty (Heap × Addr × Heap) := ⟨(default, 0, default)⟩
noncomputable def entP (q : Heap × Addr × Heap) : Prop := ent.1 q.1 q.2.1 q.2.2
@[irreducible] noncomputable def entC : Heap × Addr × Heap := worst entN entP
@[irreducible] noncomputable def gE : Heap := entC.1
@[irreducible] noncomputable def LE : Addr := entC.2.1
@[irreducible] noncomputable def hE : Heap := entC.2.2
theorem walk  : CtrTo w 282 [.int x t] [] 3 40 [] (IsStr (modeStr x))  epsC.2 (ent.1 gE LE hE) := by
  (intro cxB cxF cxX cxN cxT cxk cxd cxu cxr); walk_at "mine pure1"
  k_steps
  unfold Paused
  refine For_turns (by assumption) ?_
  k_steps
  refine enum_tup (vs := tabVals) (by exact rfl) (by assumption) (by assumption) ?hT ?hne rfl (fun I hI => ?_)
  case hT => exact ⟨_, (by assumption : (K w.params).In _) _ _ (by k_is), rfl, _, rfl⟩
  case hne =>
    intro e9
    have h1 := (by assumption : Fr _ _ _ _).above
    have h2 := Heap.lt_size ((by assumption : (K w.params).In _) 275 _ (by k_is))
    exact Nat.lt_irrefl _ (Nat.lt_of_lt_of_le h2 (Nat.le_trans h1 (Nat.le_of_eq e9.symm)))
  refine items_st2 [Str.ofString "index", Str.ofString "table", Str.ofString "bit", Str.ofString "char"] (fun i _ news => ∃ n' its, news = [(_, W.listOf its n')] ∧ StrsAre its.toList ((picks x).take i)) ?step ?done ⟨0, #[], rfl, .nil⟩
  case step =>
    rintro i a9 u news ha ⟨n9, vs9, rfl, hs9⟩ v9 h9 tk9 hv9 F9
    refine AllObj.cons (fun o9 c9 => AllObj.cons fun o8 c8 => AllObj.nil (fun N9 => ?_))
    obtain ⟨vT, hvT, rfl⟩ := enum_at ha
    obtain ⟨T9, t9, rfl, hT9⟩ := hv9
    obtain ⟨ax, lo, vsI, nI, prs, rfl, hprs, hax, hcl, hdt, hP⟩ := tab_at (by assumption) hvT
    dsimp only [List.cons_append, List.nil_append] at N9
    k_steps
    have hl9 : vs9.size ≤ 10 := by rw [← Array.length_toList, hs9.length, List.length_take]; exact Nat.le_trans (Nat.min_le_right _ _) (Nat.le_of_eq (picks_len x))
    have hI2 := hI
    have fin : ∀ (c : Str) (tc : Tok), pick x i prs = c → StrsAre (vs9.push (Value.str c tc)).toList (List.take (i + 1) (picks x)) := fun c tc e => by
      rw [picks_step hprs, e, Array.toList_push]
      exact StrsAre.append' hs9 (.cons _ _ .nil)
    by_cases hi0 : i = 0
    · subst hi0
      refine for_else_st [Str.ofString "bit", Str.ofString "char"] (fun j => (prs.take j).find? (fun p => Builtin.bitAnd x 61440 == p.1) = none) (by exact rfl) hax hcl hdt (by assumption) (by assumption) ?ev rfl ?stepI ?doneI
      case ev => k_steps
      case stepI =>
        rintro J9 oJ j v u2 h8 tk8 hv hno F8 N8 ho8
        have ho9 := ho8
        obtain ⟨pr, b, t1, t2, n1, hpr, rfl, hb⟩ := hP.at hv
        have hT8 : IsTup h8 b #[.int pr.1 t1, .str pr.2 t2] := ⟨_, F8.keep _ _ hb, rfl, _, rfl⟩
        k_lt hI2
        k_lt ho8
        k_steps
        · dsimp only [ElsePost]
          k_steps
          unfold Paused
          refine' unr_end2 (by assumption) (by assumption) (by k_mem) (by k_mem) ?h1 ?h2 ⟨trivial, ?fr, _, _, rfl, ?fin⟩
          case h1 => exact List.forall_mem_cons.mpr ⟨by k_mem, List.forall_mem_nil _⟩
          case h2 => exact List.forall_mem_cons.mpr ⟨⟨by k_ne, by k_ne⟩, List.forall_mem_nil _⟩
          case fr => intro y hy; walk_at "mine frame"
          case fin =>
            refine fin _ _ ?_
            rw [pick_zero, find_at hno hpr (by simpa using (by assumption : _ = pr.1))]
        · dsimp only [ElsePost]
          refine ⟨_, _, _, _, rfl, by assumption, by assumption, fun p hp => Nat.ne_of_lt (ho9 p hp), ?_, rfl, find_no hno hpr (by simpa using (by assumption : _ ≠ pr.1))⟩
          intro y hy
          walk_at "mine frame"
      case doneI =>
        rintro u2 h8 tk8 hno F8 N8
        k_lt hI2
        k_steps
        unfold Paused
        refine' unr_end2 (by assumption) (by assumption) (by k_mem) (by k_mem) ?h1 ?h2 ⟨trivial, ?fr, _, _, rfl, ?fin⟩
        case h1 => exact List.forall_mem_cons.mpr ⟨by k_mem, List.forall_mem_nil _⟩
        case h2 => exact List.forall_mem_cons.mpr ⟨⟨by k_ne, by k_ne⟩, List.forall_mem_nil _⟩
        case fr => intro y hy; walk_at "mine frame"
        case fin =>
          refine fin _ _ ?_
          rw [hP.length, List.take_length] at hno
          rw [pick_zero, hno]
    · have hi1 : ((i : Int) == 0) = false := beq_eq_false_iff_ne.mpr fun e => hi0 (by omega)
      refine for_else_st [Str.ofString "bit", Str.ofString "char"] (fun j => (prs.take j).find? (fun p => Builtin.bitAnd x p.1 == p.1) = none) (by exact rfl) hax hcl hdt (by assumption) (by assumption) ?ev rfl ?stepI ?doneI
      case ev => k_steps
      case stepI =>
        rintro J9 oJ j v u2 h8 tk8 hv hno F8 N8 ho8
        have ho9 := ho8
        obtain ⟨pr, b, t1, t2, n1, hpr, rfl, hb⟩ := hP.at hv
        have hT8 : IsTup h8 b #[.int pr.1 t1, .str pr.2 t2] := ⟨_, F8.keep _ _ hb, rfl, _, rfl⟩
        k_lt hI2
        k_lt ho8
        k_steps
        · dsimp only [ElsePost]
          k_steps
          unfold Paused
          refine' unr_end2 (by assumption) (by assumption) (by k_mem) (by k_mem) ?h1 ?h2 ⟨trivial, ?fr, _, _, rfl, ?fin⟩
          case h1 => exact List.forall_mem_cons.mpr ⟨by k_mem, List.forall_mem_nil _⟩
          case h2 => exact List.forall_mem_cons.mpr ⟨⟨by k_ne, by k_ne⟩, List.forall_mem_nil _⟩
          case fr => intro y hy; walk_at "mine frame"
          case fin =>
            refine fin _ _ ?_
            rw [pick_succ hi0, find_at hno hpr (by simpa using (by assumption : _ = pr.1))]
        · dsimp only [ElsePost]
          refine ⟨_, _, _, _, rfl, by assumption, by assumption, fun p hp => Nat.ne_of_lt (ho9 p hp), ?_, rfl, find_no hno hpr (by simpa using (by assumption : _ ≠ pr.1))⟩
          intro y hy
          walk_at "mine frame"
      case doneI =>
        rintro u2 h8 tk8 hno F8 N8
        k_lt hI2
        k_steps
        unfold Paused
        refine' unr_end2 (by assumption) (by assumption) (by k_mem) (by k_mem) ?h1 ?h2 ⟨trivial, ?fr, _, _, rfl, ?fin⟩
        case h1 => exact List.forall_mem_cons.mpr ⟨by k_mem, List.forall_mem_nil _⟩
        case h2 => exact List.forall_mem_cons.mpr ⟨⟨by k_ne, by k_ne⟩, List.forall_mem_nil _⟩
        case fr => intro y hy; walk_at "mine frame"
        case fin =>
          refine fin _ _ ?_
          rw [hP.length, List.take_length] at hno
          rw [pick_succ hi0, hno]
  case done =>
    rintro u news h9 tk9 ⟨n9, vs9, rfl, hs9⟩ F9 N9
    rw [show (enumItems 0 tabVals).length = (picks x).length from (enumItems_length _ _).trans (picks_len x).symm, List.take_length] at hs9
    k_steps
    refine join_list ⟨_, News.get (by assumption) (by k_mem), rfl, _, rfl⟩ hs9 (pick_size x) ?_
    intro t' k'
    dsimp only
    k_steps
    exact IsStr.mk rfl
theorem walk2  : CtrTo w 282 [.int x t] [] 3 40 [] (IsStr (modeStr x))  epsC.2 (entP entC) := by with_unfolding_all exact walk 
theorem fin : epsP epsC := by
  with_unfolding_all exact fun  cxB cxF cxX cxN cxT cxk cxd cxu cxr => ent.2  ⟨fun x0 x1 x2 => of_worst (P := entP) (h := entN) (by with_unfolding_all exact walk2  cxB cxF cxX cxN cxT cxk cxd cxu cxr) (x0, x1, x2)⟩ cxB cxF cxX cxN cxT cxk cxd cxu cxr
end E_mode_spec
theorem mode_spec (w : World) (x : Int) (t : Tok) : Ctr w 282 [.int x t] [] 3 40 [] (IsStr (modeStr x)) := ctr_of fun c9 => of_worst (P := E_mode_spec.epsP) (h := E_mode_spec.epsN) (by with_unfolding_all exact E_mode_spec.fin) ((w, x, t), c9) 
end
section
open PyProof.V PySem.Spec
noncomputable def ch (x : Str) : List Nat := x.cps.toList
theorem ch_inj {x y : Str} (h : ch x = ch y) : x = y := by
  cases x; cases y
  exact congrArg Str.mk (Array.toList_inj.mp h)
theorem ch_append (x y : Str) : ch (x ++ y) = ch x ++ ch y := by
  unfold ch
  rw [Str.cps_append, Array.toList_append]
theorem ch_len (x : Str) : (ch x).length = x.length := Array.length_toList
theorem plain_ch {x : Str} : Plain x ↔ ∀ c ∈ ch x, okc c := Iff.rfl
theorem Plain.append {x y : Str} (hx : Plain x) (hy : Plain y) : Plain (x ++ y) := by
  rw [plain_ch, ch_append]
  intro c hc
  exact (List.mem_append.mp hc).elim (hx c) (hy c)
theorem ch_join0 : ∀ ys : List Str, ch (Str.join (Str.ofString "") ys) = (ys.map ch).flatten
  | [] => rfl
  | [x] => by simp [Str.join]
  | x :: y :: r => by
    have e : ch (Str.ofString "") = [] := by decide +kernel
    show ch (x ++ Str.ofString "" ++ Str.join (Str.ofString "") (y :: r)) = _
    rw [ch_append, ch_append, ch_join0 (y :: r), e, List.append_nil]; rfl
theorem ch_mode (x : Int) : ch (modeStr x) = ((picks x).map ch).flatten := by
  unfold modeStr Txt.join
  rw [StrLaws.glued_eq_join]
  exact ch_join0 _
theorem pick_plain (x : Int) (i : Nat) (prs : List (Int × Str)) (h : ∀ p ∈ prs, Plain p.2) : Plain (pick x i prs) := by
  have q : ∀ (f : Int × Str → Bool) (d : Str), Plain d → Plain (match prs.find? f with | some p => p.2 | none => d) := fun f d hd => by
    cases e : prs.find? f with
    | none => exact hd
    | some p => exact h p (List.mem_of_find?_eq_some e)
  unfold pick
  split
  · exact q _ _ (by decide +kernel)
  · exact q _ _ (by decide +kernel)
theorem tab_plain : ∀ prs ∈ modeTab, ∀ p ∈ prs, Plain p.2 := by decide +kernel
theorem picks_all (x : Int) : ∀ y ∈ picks x, Plain y ∧ y.length = 1 := by
  intro y hy
  unfold picks at hy
  obtain ⟨i, hi, rfl⟩ := List.mem_mapIdx.mp hy
  exact ⟨pick_plain _ _ _ (tab_plain _ (List.getElem_mem _)), pick_len _ _ _ (tab_one _ (List.getElem_mem _))⟩
theorem mode_plain (x : Int) : Plain (modeStr x) := by
  rw [plain_ch, ch_mode]
  intro c hc
  obtain ⟨l, hl, hcl⟩ := List.mem_flatten.mp hc
  obtain ⟨y, hy, rfl⟩ := List.mem_map.mp hl
  exact (picks_all x y hy).1 c hcl
theorem mode_len (x : Int) : (modeStr x).length = 10 := by
  rw [← ch_len, ch_mode, List.length_flatten, List.map_map]
  have h : ∀ l : List Nat, (∀ n ∈ l, n = 1) → l.sum = l.length := fun l hl => by
    induction l with
    | nil => rfl
    | cons a l ih => rw [List.sum_cons, ih fun n hn => hl n (.tail _ hn), hl a (.head _), List.length_cons]; omega
  rw [h, List.length_map, picks_len]
  intro n hn
  obtain ⟨y, hy, rfl⟩ := List.mem_map.mp hn
  exact (ch_len y).trans (picks_all x y hy).2
noncomputable def EvOk (e : Ev) : Prop := e.1 ∈ menu ∧ 0 ≤ e.2.1 ∧ e.2.1 < 65536 ∧ e.2.2 < 20
theorem name_plain : ∀ nm ∈ menu, Plain nm ∧ nm.length ≤ 10 := by decide +kernel
noncomputable def HourOk (x : Str) : Prop := Plain x ∧ x.length = 2 ∧ Builtin.Str.occurrences x (Str.ofString "\\") 0 x.length (x.length + 1) = [] ∧ Builtin.Str.occurrences x (Str.ofString "\"") 0 x.length (x.length + 1) = []
instance (x : Str) : Decidable (HourOk x) := by unfold HourOk; infer_instance
theorem hour_ok : ∀ h : Nat, h < 20 → HourOk (hourStr (h : Int)) := by decide +kernel
theorem ev_name (x : Int) : nameOf x ∈ menu := by
  unfold nameOf
  have h1 := Int.fmod_nonneg_of_pos x (show (0 : Int) < 6 by decide)
  have h2 := Int.fmod_lt_of_pos x (show (0 : Int) < 6 by decide)
  have h3 : (x.fmod 6).toNat < menu.length := by show _ < 6; omega
  rw [List.getD_eq_getElem?_getD, List.getElem?_eq_getElem h3]
  exact List.getElem_mem h3
theorem evs_ok {xs : List Int} (h : xs.length ≤ 20) : ∀ e ∈ evs xs, EvOk e := by
  intro e he
  obtain ⟨k, hk, rfl⟩ := List.mem_map.mp he
  have hk2 := List.mem_range.mp hk
  exact ⟨ev_name _, (held_bounds _).1, (held_bounds _).2, Nat.lt_of_lt_of_le (hour_lt xs hk2) h⟩
end
section
open PyProof.V PySem.Spec
section
variable {w : World} {f : Addr} {pos : List Value} {kw : List (Str × Value)} {d u : Nat} {cells all : Led} {Post : Led → Value → Prop}
  {p : Program} {loose : List Str} {mean : ExcName → Option Value} {mg mb : Str → Option Value} {dp un : Nat} {gd : Option (List Code)} {cn : Str} {cs : Scope} {a : Addr} {ccd : Value} {cl : List (Str × Addr)} {outer : List Env}
  {A₀ : Around} {base h₀ : Heap} {L : Addr} {m : Str → Option Value} {s : Shared} {Q E : Value → Shared → Prop}
/-- a contract over a whole ledger, the ledger laid in another order -/
theorem use_whole (led : Led) (S : CtrL w f pos kw d u led Post) (B : Below A₀ base outer h₀) (F : Fr h₀ L s.heap m) (X : (K w.params).In h₀) (N : News h₀ L s.heap all) (T : Top p loose mean mg mb h₀) (hk : cs.kind = .function) (hd : dp + d < recursionLimit) (hu : un + u < cLine)
    (hm : ∀ p ∈ led, p ∈ all) (h : ∀ v h' tk news', Fr h₀ L h' m → News h₀ L h' news' → Post news' v → Q v { s with heap := h', toks := tk }) :
    wpAny (model prog w) (ktrTop dp un gd cn cs L a ccd cl outer) (call (.ref f) pos kw) Q E s :=
  S _ _ _ _ _ _ _ _ _ _ _ _ _ _ _ _ _ _ _ _ _ _ B F X (News.sub N hm) T hk hd hu fun v h' tk news' F' N' hp => h v h' tk news' F' N' hp
/-- the same of a contract that keeps what lies off its cells -/
theorem use_cells (cells rest : Led) (S : Ctr w f pos kw d u cells Post) (B : Below A₀ base outer h₀) (F : Fr h₀ L s.heap m) (X : (K w.params).In h₀) (N : News h₀ L s.heap all) (T : Top p loose mean mg mb h₀) (hk : cs.kind = .function) (hd : dp + d < recursionLimit) (hu : un + u < cLine)
    (hm : ∀ p ∈ cells, p ∈ all) (hr : ∀ p ∈ rest, p ∈ all) (hro : ∀ p ∈ rest, p.1 ∉ cells.map (·.1))
    (h : ∀ v h' tk news', Fr h₀ L h' m → News h₀ L h' (news' ++ rest) → Post news' v → Q v { s with heap := h', toks := tk }) :
    wpAny (model prog w) (ktrTop dp un gd cn cs L a ccd cl outer) (call (.ref f) pos kw) Q E s :=
  use_gen S B F X N T hk hd hu hm rest hr hro h
theorem keep_all {h h' : Heap} {cells news' : Led} {adr : List Addr} (N : News h₀ L h cells) (N' : News h₀ L h' news') (k : Keep h h' adr) (ha : ∀ b ∈ adr, b ∈ cells.map (·.1)) (hs : ∀ p ∈ cells, p ∈ news') : Keep h h' [] := by
  intro b o e _
  by_cases hb : b ∈ adr
  · obtain ⟨q, hq, rfl⟩ := List.mem_map.mp (ha b hb)
    have h1 := (N q hq).1
    rw [h1] at e
    cases e
    exact (N' q (hs q hq)).1
  · exact k b o e hb
/-- a def that writes none of its cells: all stays -/
theorem use_read (cells : Led) (S : Ctr w f pos kw d u cells Post) (hP : ∀ n' v, Post n' v → ∀ p ∈ cells, p ∈ n') (B : Below A₀ base outer h₀) (F : Fr h₀ L s.heap m) (X : (K w.params).In h₀) (N : News h₀ L s.heap all) (T : Top p loose mean mg mb h₀) (hk : cs.kind = .function) (hd : dp + d < recursionLimit) (hu : un + u < cLine)
    (hm : ∀ p ∈ cells, p ∈ all)
    (h : ∀ v h' tk news', Fr h₀ L h' m → News h₀ L h' (news' ++ all) → Post news' v → Q v { s with heap := h', toks := tk }) :
    wpAny (model prog w) (ktrTop dp un gd cn cs L a ccd cl outer) (call (.ref f) pos kw) Q E s :=
  S _ _ _ _ _ _ _ _ _ _ _ _ _ _ _ _ _ _ _ _ _ _ B F X (News.sub N hm) T hk hd hu fun v h' tk news' F' N' k hp =>
    h v h' tk news' F' (News.app N' (News.keep N (keep_all (News.sub N hm) N' k (fun _ hb => hb) (hP _ _ hp)) fun _ _ => List.not_mem_nil)) hp
end
theorem ne_cls {h₀ h : Heap} {L : Addr} {led : Led} {a b : Addr} {o o' : Obj} (N : News h₀ L h led) (h1 : (a, o) ∈ led) (h2 : (b, o') ∈ led) (hc : o.cls ≠ o'.cls) : @Ne Nat a b := fun e => by
  have q1 := (N _ h1).1
  have q2 := (N _ h2).1
  have e' : a = b := e
  rw [e', show h.get? b = some o' from q2] at q1
  exact hc (congrArg Obj.cls (Option.some.inj q1).symm)
noncomputable def AllTup (led : Led) : Prop := ∀ p ∈ led, p.2.cls = .type "tuple"
theorem off_tup {h₀ h : Heap} {L : Addr} {led add : Led} {a : Addr} {o : Obj} (N : News h₀ L h led) (h1 : (a, o) ∈ led) (hs : ∀ p ∈ add, p ∈ led) (ht : AllTup add) (hc : o.cls ≠ .type "tuple") : ∀ p ∈ add, @Ne Nat p.1 a :=
  fun p hp => ne_cls N (hs p hp) h1 (by rw [ht p hp]; exact fun e => hc e.symm)
/-- a Headers object: its list, itself, its dict -/
noncomputable abbrev hdr (w : World) (l x dx : Addr) (t : Tok) (vs : List Value) (n : Nat) : Led := [(l, W.listOf vs.toArray n), (x, instObj 182 dx), (dx, hDict w t l)]
noncomputable def Apart3 (l x dx : Addr) : Prop := @Ne Nat l x ∧ @Ne Nat l dx ∧ @Ne Nat x dx
end
end
end
end
theorem sweepP18a {M : Model} {A : Around} {env : Env} {Q : Flow → Shared → Prop} {E : Value → Shared → Prop} {s : Shared} (h : wpAny M A (execs [] env) Q E s) : wpAny M A (execs [] env) Q E s := by w_top off; first | (walk1; fail "swept") | exact h
section
open PyProof.V PySem.Spec
local macro_rules | `(tactic| k_all) => `(tactic| k_extra "mk1")
local macro_rules | `(tactic| k_all) => `(tactic| k_extra "mk3")
section
open PyProof.V PySem.Spec
local macro_rules | `(tactic| walk_at "call builtin:list.append") => `(tactic| refine Paused.intro ?_)
section
open PyProof.V PySem.Spec
local macro_rules | `(tactic| walk_at "call ref") => `(tactic| k_extra "mv27")
local macro_rules | `(tactic| walk_at "call ref") => `(tactic| k_extra "mv28")
local macro_rules | `(tactic| walk_at "call ref") => `(tactic| ((with_reducible show wpAny _ _ (call (Value.ref 179) _ _) _ _ _); refine Paused.intro ?_))
local macro_rules | `(tactic| walk_at "call ref") => `(tactic| k_extra "mv25")
section
open PyProof.V PySem.Spec
local macro_rules | `(tactic| walk_at "mine frame") => `(tactic| (rename_i y9 hy9; (repeat first | rw [if_neg (off_st hy9 (by decide +kernel))] | rw [if_neg (off_in hy9)])))
theorem sweepP18 {M : Model} {A : Around} {env : Env} {Q : Flow → Shared → Prop} {E : Value → Shared → Prop} {s : Shared} (h : wpAny M A (execs [] env) Q E s) : wpAny M A (execs [] env) Q E s := by w_top off; first | (walk1; fail "swept") | exact h
section
open PyProof.V PySem.Spec
noncomputable def logLine (k : Nat) (e : Ev) : Str := if k % 2 = 0 then line1 (modeStr e.2.1) (hourStr (e.2.2 : Int)) else line2 (modeStr e.2.1) (hourStr (e.2.2 : Int))
noncomputable def logPairs (es : List Ev) : List (Str × Str) := es.mapIdx fun k e => (e.1, logLine k e)
noncomputable def plainPairs (es : List Ev) : List (Str × Str) := (es.take 3).map fun e => (e.1, line0 (modeStr e.2.1))
theorem log_step {es : List Ev} {i : Nat} {e : Ev} (h : es[i]? = some e) : logPairs (es.take (i + 1)) = logPairs (es.take i) ++ [(e.1, logLine i e)] := by
  have hi := (List.getElem?_eq_some_iff.mp h).1
  unfold logPairs
  rw [List.take_add_one, h, Option.toList_some, List.mapIdx_append, List.length_take, Nat.min_eq_left (Nat.le_of_lt hi), List.mapIdx_cons, List.mapIdx_nil, Nat.zero_add]
theorem plain_step {es : List Ev} {i : Nat} {e : Ev} (h : es[i]? = some e) (h3 : i < 3) : plainPairs (es.take (i + 1)) = plainPairs (es.take i) ++ [(e.1, line0 (modeStr e.2.1))] := by
  have hi := (List.getElem?_eq_some_iff.mp h).1
  unfold plainPairs
  rw [List.take_take, List.take_take, Nat.min_eq_right (by omega), Nat.min_eq_right (by omega), List.take_add_one, h, Option.toList_some, List.map_append]
  rfl
theorem plain_stay {es : List Ev} {i : Nat} (h3 : ¬ i < 3) : plainPairs (es.take (i + 1)) = plainPairs (es.take i) := by
  unfold plainPairs
  rw [List.take_take, List.take_take, Nat.min_eq_left (by omega), Nat.min_eq_left (by omega)]
noncomputable def Logged (w : World) (cells : Led) (es : List Ev) (news' : Led) (v : Value) : Prop :=
  ∃ T lL xL dL tL vsL nL lP xP dP tP vsP nP add, v = .ref T ∧ Apart3 lL xL dL ∧ Apart3 lP xP dP ∧ DatAll add vsL ((logPairs es).map pairD) ∧ DatAll add vsP ((plainPairs es).map pairD) ∧
    ∀ p ∈ (T, ({ cls := .type "tuple", data := .seq #[.ref xL, .ref xP] } : Obj)) :: (hdr w lL xL dL tL vsL nL ++ hdr w lP xP dP tP vsP nP ++ add ++ cells), p ∈ news'
/-- an event's tuple stands in the pool -/
theorem ev_at {pool : Led} {vs : List Value} {es : List Ev} {i : Nat} {v : Value} (hd : DatAll pool vs (es.map evD)) (hv : vs[i]? = some v) :
    ∃ e T t1 t2 t3 n, es[i]? = some e ∧ v = .ref T ∧ (T, ({ cls := .type "tuple", data := .seq #[Value.str e.1 t1, Value.int e.2.1 t2, Value.int (e.2.2 : Int) t3] n } : Obj)) ∈ pool := by
  have hi : i < (es.map evD).length := by rw [← hd.length]; exact (List.getElem?_eq_some_iff.mp hv).1
  obtain ⟨v', hv', hD⟩ := hd.get hi
  rw [hv] at hv'
  cases hv'
  rw [List.getElem_map] at hD
  have hi' : i < es.length := by rw [List.length_map] at hi; exact hi
  obtain ⟨T, x, y, z, n, rfl, hm, h1, h2, h3⟩ := in_three9 hD
  obtain ⟨t1, rfl⟩ := in_str9 h1
  obtain ⟨t2, rfl⟩ := in_int9 h2
  obtain ⟨t3, rfl⟩ := in_int9 h3
  exact ⟨es[i], T, t1, t2, t3, n, List.getElem?_eq_getElem hi', rfl, hm⟩
theorem list_cls (a : Array Value) (n : Nat) : (W.listOf a n).cls ≠ .type "tuple" := fun e => absurd (Value.type.inj e) (by decide)
theorem par_even {i : Nat} (h : i % 2 = 0) : ((i : Int).fmod 2 == 0) = true := by rw [Int.fmod_eq_emod_of_nonneg _ (by decide)]; simp; omega
theorem par_odd {i : Nat} (h : ¬ i % 2 = 0) : ((i : Int).fmod 2 == 0) = false := by rw [Int.fmod_eq_emod_of_nonneg _ (by decide)]; simp; omega
theorem AllLt.all {d : Nat} : ∀ {l : Led}, AllLt d l → ∀ p ∈ l, @LT.lt Nat _ p.1 d
  | [], _, _, hp => nomatch hp
  | q :: r, h, p, hp => by
    rcases List.mem_cons.mp hp with rfl | hp
    · exact h.1
    · exact AllLt.all h.2 p hp
namespace E_logged_spec
noncomputable def epsP (q : (World × Addr × (List Value) × Nat × (List Ev) × Led) × Cx) : Prop := (fun (w : World) (l : Addr) (vs : List Value) (n : Nat) (es : List Ev) (pool : Led) (cx9 : Cx) => ∀ (hd : DatAll pool vs (es.map evD)) (hok : ∀ e ∈ es, EvOk e) (hlen : es.length ≤ 20), CtrAt w 310 [.ref l] [] 8 100 ((l, W.listOf vs.toArray n) :: pool) (Logged w ((l, W.listOf vs.toArray n) :: pool) es)  cx9) q.1.1 q.1.2.1 q.1.2.2.1 q.1.2.2.2.1 q.1.2.2.2.2.1 q.1.2.2.2.2.2 q.2
theorem epsN : Nonempty ((World × Addr × (List Value) × Nat × (List Ev) × Led) × Cx) := ⟨((Classical.choice neWorld, default, default, default, default, default), Classical.choice neCx)⟩
@[irreducible] noncomputable def epsC : (World × Addr × (List Value) × Nat × (List Ev) × Led) × Cx := worst epsN epsP
@[irreducible] noncomputable def w : World := epsC.1.1
@[irreducible] noncomputable def l : Addr := epsC.1.2.1
@[irreducible] noncomputable def vs : List Value := epsC.1.2.2.1
@[irreducible] noncomputable def n : Nat := epsC.1.2.2.2.1
@[irreducible] noncomputable def es : List Ev := epsC.1.2.2.2.2.1
@[irreducible] noncomputable def pool : Led := epsC.1.2.2.2.2.2
noncomputable def ent : (TT9 : Heap → Addr → Heap → Prop) ×' (∀ (hd : DatAll pool vs (es.map evD)) (hok : ∀ e ∈ es, EvOk e) (hlen : es.length ≤ 20), Hid (∀ x0 x1 x2, TT9 x0 x1 x2) → CtrAt w 310 [.ref l] [] 8 100 ((l, W.listOf vs.toArray n) :: pool) (Logged w ((l, W.listOf vs.toArray n) :: pool) es)  epsC.2) :=
  ⟨_, fun hd hok hlen H => by
    intro cxB cxF cxX cxN cxT cxk cxd cxu cxr
    ((refine wpAny_call ?_; k_dflt (refine' code_defG ?z31k1 ?z31k2 ?z31k3 ?z31k4 ?z31k5 ?z31kA ?z31kF ?z31kK ?z31k6 ?z31k7 ?z31k8 ?z31k9 ?z31kB ?_ ?z31c2 ?z31c3 ?z31c4 ?z31c5; (case z31kA => exact rfl); (case z31kF => exact rfl); (case z31kK => assumption); (case z31k1 => k_asm); (case z31k2 => k_asm); (case z31k3 => k_asm); (case z31k4 => k_asm); (case z31k5 => k_asm); (case z31k6 => k_is); (case z31k7 => k_is); (case z31k8 => ktr_room); (case z31k9 => first | exact BindsTo.of_eq rfl | exact binds_K (by k_in) rfl (by k_is) rfl rfl rfl | fail "mine enter: no rule for these arguments"); (case z31c5 => decide); (case z31kB => exact locs rfl); (case z31c2 => exact rfl); (case z31c3 => exact rfl); (case z31c4 => exact rfl); k_whole)))
    exact H.out⟩
theorem entN : Nonempty (Heap × Addr × Heap) := ⟨(default, 0, default)⟩
noncomputable def entP (q : Heap × Addr × Heap) : Prop := ent.1 q.1 q.2.1 q.2.2
@[irreducible] noncomputable def entC : Heap × Addr × Heap := worst entN entP
@[irreducible] noncomputable def gE : Heap := entC.1
@[irreducible] noncomputable def LE : Addr := entC.2.1
@[irreducible] noncomputable def hE : Heap := entC.2.2
theorem walk (hd : DatAll pool vs (es.map evD)) (hok : ∀ e ∈ es, EvOk e) (hlen : es.length ≤ 20) : CtrTo w 310 [.ref l] [] 8 100 ((l, W.listOf vs.toArray n) :: pool) (Logged w ((l, W.listOf vs.toArray n) :: pool) es)  epsC.2 (ent.1 gE LE hE) := by
  (intro cxB cxF cxX cxN cxT cxk cxd cxu cxr); walk_at "mine pure1"
  k_steps
  unfold Paused
  refine For_turns (by assumption) ?_
  k_steps
  have hvl : vs.length = es.length := by rw [hd.length, List.length_map]
  rename_i xL dL lL tL _ _ _ _ _ xP dP lP tP _ _ _ _ _ D _ _ _ _ _ _ _ _ _
  refine ktu_enum (by exact rfl) (by assumption) (by assumption) (by k_mem) rfl rfl rfl (fun I hI => ?_)
  refine items_st2 [Str.ofString "k", Str.ofString "name", Str.ofString "held", Str.ofString "hour", Str.ofString "row"] (fun i _ news => ∃ vsL nL vsP nP add, news = _ :: (lP, W.listOf (List.toArray vsP) nP) :: _ :: _ :: (lL, W.listOf (List.toArray vsL) nL) :: _ :: _ :: _ :: (add ++ pool) ∧ AllTup add ∧ DatAll add vsL ((logPairs (es.take i)).map pairD) ∧ DatAll add vsP ((plainPairs (es.take i)).map pairD)) ?step ?done ⟨[], _, [], _, [], rfl, List.forall_mem_nil _, .nil, .nil⟩
  case step =>
    rintro i a9 u news ha ⟨vsL, nL, vsP, nP, add, rfl, htup, hL, hP⟩ v9 h9 tk9 hv9 F9
    refine AllObj.cons (fun o9 c9 => AllObj.cons fun o8 c8 => AllObj.nil (fun N9 => ?_))
    obtain ⟨vT, hvT, rfl⟩ := enum_at ha
    obtain ⟨T9, t9, rfl, hT9⟩ := hv9
    obtain ⟨e, Te, t1, t2, t3, ne, he, rfl, hTe⟩ := ev_at hd hvT
    have hi2 : i < es.length := (List.getElem?_eq_some_iff.mp he).1
    obtain ⟨k1, k2, k3, k4⟩ := hok e (List.mem_of_getElem? he)
    have kn := name_plain _ k1
    have k5 : (0 : Int) ≤ (e.2.2 : Int) := Int.natCast_nonneg _
    have k6 : (e.2.2 : Int) < 100 := by omega
    obtain ⟨ho1, ho2, ho3, ho4⟩ := hour_ok _ k4
    have hvLl : vsL.length = i := by rw [hL.length, List.length_map]; unfold logPairs; rw [List.length_mapIdx, List.length_take]; omega
    have hvPl : vsP.length ≤ 3 := by rw [hP.length, List.length_map]; unfold plainPairs; rw [List.length_map, List.length_take]; omega
    have N8 := News.more N9 (p := (Te, _)) (List.mem_append_right _ (List.mem_cons_of_mem _ (List.mem_cons_of_mem _ (List.mem_cons_of_mem _ (List.mem_cons_of_mem _ (List.mem_cons_of_mem _ (List.mem_cons_of_mem _ (List.mem_cons_of_mem _ (List.mem_cons_of_mem _ (List.mem_append_right _ hTe))))))))))
    clear N9
    dsimp only [List.cons_append, List.nil_append] at N8
    have hI2 := hI
    k_lt hI2
    have hpl : ∀ p ∈ pool, @LT.lt Nat _ p.1 dL := AllLt.all (by assumption : _ ∧ AllLt dL pool).2
    have offL := off_tup N8 (a := lL) (o := W.listOf vsL.toArray nL) (by k_mem) (fun p hp => by simp only [List.mem_cons, List.mem_append, hp, or_true, true_or]) htup (list_cls _ _)
    have offP := off_tup N8 (a := lP) (o := W.listOf vsP.toArray nP) (by k_mem) (fun p hp => by simp only [List.mem_cons, List.mem_append, hp, or_true, true_or]) htup (list_cls _ _)
    by_cases h3 : i < 3
    · have h3' : ((i : Int) < 3) := by omega
      k_steps
      unfold Paused
      refine use_whole ((lP, W.listOf (List.toArray vsP) nP) :: (xP, instObj 182 dP) :: (dP, hDict w tP lP) :: ((I + 1, o9) :: (I, o8) :: (D, { cls := .type "tuple", data := .seq #[.ref xL, .ref xP] }) :: (lL, W.listOf (List.toArray vsL) nL) :: (xL, instObj 182 dL) :: (dL, hDict w tL lL) :: (l, W.listOf (List.toArray vs) n) :: (add ++ pool))) (add0_spec w xP dP lP tP vsP nP _ _ (Str.ofString "") _ _ 0 0 (by omega) ((I + 1, o9) :: (I, o8) :: (D, { cls := .type "tuple", data := .seq #[.ref xL, .ref xP] }) :: (lL, W.listOf (List.toArray vsL) nL) :: (xL, instObj 182 dL) :: (dL, hDict w tL lL) :: (l, W.listOf (List.toArray vs) n) :: (add ++ pool)) ?hl1 ⟨by k_ne, by k_ne, by k_ne⟩ kn.1 kn.2 (mode_plain _) (by rw [mode_len]; omega)) (by k_asm) (by k_asm) (by k_asm) (by assumption) (by k_asm) (by first | assumption | exact rfl) (by ktr_room) (by ktr_units) ?hm1 ?_
      case hl1 => exact List.forall_mem_cons.mpr ⟨by k_ne, List.forall_mem_cons.mpr ⟨by k_ne, List.forall_mem_cons.mpr ⟨by k_ne, List.forall_mem_cons.mpr ⟨by k_ne, List.forall_mem_cons.mpr ⟨by k_ne, List.forall_mem_cons.mpr ⟨by k_ne, List.forall_mem_cons.mpr ⟨by k_ne, fun p hp => (List.mem_append.mp hp).elim (offP p) (fun q => neN (by have := hpl p q; omega))⟩⟩⟩⟩⟩⟩⟩
      case hm1 => exact List.forall_mem_cons.mpr ⟨by k_mem, List.forall_mem_cons.mpr ⟨by k_mem, List.forall_mem_cons.mpr ⟨by k_mem, List.forall_mem_cons.mpr ⟨by k_mem, List.forall_mem_cons.mpr ⟨by k_mem, List.forall_mem_cons.mpr ⟨by k_mem, List.forall_mem_cons.mpr ⟨by k_mem, List.forall_mem_cons.mpr ⟨by k_mem, List.forall_mem_cons.mpr ⟨by k_mem, List.forall_mem_cons.mpr ⟨by k_mem, fun p hp => by have hp2 : p ∈ add ++ pool := hp; simp only [List.cons_append, List.mem_cons, hp2, or_true]⟩⟩⟩⟩⟩⟩⟩⟩⟩⟩
      rintro v7 h7 tk7 n7 F7 N7 ⟨rfl, T1, m1, u1, u2, hs7⟩
      have N6 := News.sub N7 hs7
      unfold addedLed at N6
      clear N7 hs7
      have htup1 : AllTup ((T1, ({ cls := .type "tuple", data := .seq [Value.str e.1 u1, Value.str (line0 (modeStr e.2.1)) u2].toArray } : Obj)) :: add) := List.forall_mem_cons.mpr ⟨rfl, htup⟩
      have offL1 := off_tup N6 (a := lL) (o := W.listOf vsL.toArray nL) (by k_mem) (List.forall_mem_cons.mpr ⟨by k_mem, fun p hp => by simp only [List.mem_cons, List.mem_append, hp, or_true, true_or]⟩) htup1 (list_cls _ _)
      dsimp only
      by_cases hpar : i % 2 = 0
      · have hpar' : ((i : Int).fmod 2 == 0) = true := par_even hpar
        k_steps
        unfold Paused
        refine use_whole ((lL, W.listOf (List.toArray vsL) nL) :: (xL, instObj 182 dL) :: (dL, hDict w tL lL) :: ((I + 1, o9) :: (I, o8) :: (D, { cls := .type "tuple", data := .seq #[.ref xL, .ref xP] }) :: (lP, W.listOf (List.toArray (vsP ++ [Value.ref T1])) m1) :: (xP, instObj 182 dP) :: (dP, hDict w tP lP) :: (l, W.listOf (List.toArray vs) n) :: (((T1, ({ cls := .type "tuple", data := .seq [Value.str e.1 u1, Value.str (line0 (modeStr e.2.1)) u2].toArray } : Obj)) :: add) ++ pool))) (add1_spec w xL dL lL tL vsL nL _ _ _ _ _ _ 0 (by omega) ((I + 1, o9) :: (I, o8) :: (D, { cls := .type "tuple", data := .seq #[.ref xL, .ref xP] }) :: (lP, W.listOf (List.toArray (vsP ++ [Value.ref T1])) m1) :: (xP, instObj 182 dP) :: (dP, hDict w tP lP) :: (l, W.listOf (List.toArray vs) n) :: (((T1, ({ cls := .type "tuple", data := .seq [Value.str e.1 u1, Value.str (line0 (modeStr e.2.1)) u2].toArray } : Obj)) :: add) ++ pool)) ?hl2 ⟨by k_ne, by k_ne, by k_ne⟩ kn.1 kn.2 (mode_plain _) (by rw [mode_len]; omega) ho1 ho2 ho3 ho4) (by k_asm) (by k_asm) (by k_asm) (by assumption) (by k_asm) (by first | assumption | exact rfl) (by ktr_room) (by ktr_units) ?hm2 ?_
        case hl2 => exact List.forall_mem_cons.mpr ⟨by k_ne, List.forall_mem_cons.mpr ⟨by k_ne, List.forall_mem_cons.mpr ⟨by k_ne, List.forall_mem_cons.mpr ⟨by k_ne, List.forall_mem_cons.mpr ⟨by k_ne, List.forall_mem_cons.mpr ⟨by k_ne, List.forall_mem_cons.mpr ⟨by k_ne, fun p hp => (List.mem_append.mp hp).elim (offL1 p) (fun q => neN (by have := hpl p q; omega))⟩⟩⟩⟩⟩⟩⟩
        case hm2 => exact List.forall_mem_cons.mpr ⟨by k_mem, List.forall_mem_cons.mpr ⟨by k_mem, List.forall_mem_cons.mpr ⟨by k_mem, List.forall_mem_cons.mpr ⟨by k_mem, List.forall_mem_cons.mpr ⟨by k_mem, List.forall_mem_cons.mpr ⟨by k_mem, List.forall_mem_cons.mpr ⟨by k_mem, List.forall_mem_cons.mpr ⟨by k_mem, List.forall_mem_cons.mpr ⟨by k_mem, List.forall_mem_cons.mpr ⟨by k_mem, List.forall_mem_cons.mpr ⟨by k_mem, fun p hp => by have hp2 : p ∈ add ++ pool := hp; simp only [List.cons_append, List.mem_cons, hp2, or_true]⟩⟩⟩⟩⟩⟩⟩⟩⟩⟩⟩
        rintro v5 h5 tk5 n5 F5 N5 ⟨rfl, T2, m2, w1, w2, hs5⟩
        have N4 := News.sub N5 hs5
        unfold addedLed at N4
        clear N5 hs5
        have htup2 : AllTup ((T2, ({ cls := .type "tuple", data := .seq [Value.str e.1 w1, Value.str (line1 (modeStr e.2.1) (hourStr (e.2.2 : Int))) w2].toArray } : Obj)) :: ((T1, ({ cls := .type "tuple", data := .seq [Value.str e.1 u1, Value.str (line0 (modeStr e.2.1)) u2].toArray } : Obj)) :: add)) := List.forall_mem_cons.mpr ⟨rfl, htup1⟩
        have offI := off_tup N4 (a := I) (o := o8) (by k_mem) (List.forall_mem_cons.mpr ⟨by k_mem, List.forall_mem_cons.mpr ⟨by k_mem, fun p hp => by simp only [List.mem_cons, List.mem_append, hp, or_true, true_or]⟩⟩) htup2 (by rw [c8]; exact fun e => absurd (Value.type.inj e) (by show ¬ "list_iterator" = "tuple"; decide))
        have offJ := off_tup N4 (a := I + 1) (o := o9) (by k_mem) (List.forall_mem_cons.mpr ⟨by k_mem, List.forall_mem_cons.mpr ⟨by k_mem, fun p hp => by simp only [List.mem_cons, List.mem_append, hp, or_true, true_or]⟩⟩) htup2 (by rw [c9]; exact fun e => absurd (Value.type.inj e) (by show ¬ "enumerate" = "tuple"; decide))
        dsimp only
        k_steps
        unfold Paused
        refine unr_end2 (by assumption) (by assumption) (by k_mem) (by k_mem) (List.forall_mem_cons.mpr ⟨by k_mem, List.forall_mem_cons.mpr ⟨by k_mem, List.forall_mem_cons.mpr ⟨by k_mem, List.forall_mem_cons.mpr ⟨by k_mem, List.forall_mem_cons.mpr ⟨by k_mem, List.forall_mem_cons.mpr ⟨by k_mem, List.forall_mem_cons.mpr ⟨by k_mem, List.forall_mem_cons.mpr ⟨by k_mem, List.forall_mem_cons.mpr ⟨by k_mem, List.forall_mem_cons.mpr ⟨by k_mem, fun p hp => by have hp2 : p ∈ add ++ pool := hp; simp only [List.cons_append, List.mem_cons, hp2, or_true]⟩⟩⟩⟩⟩⟩⟩⟩⟩⟩) ?off ⟨⟨by k_mem, trivial⟩, ?fr, vsL ++ [.ref T2], m2, vsP ++ [Value.ref T1], m1, (T2, _) :: (((T1, ({ cls := .type "tuple", data := .seq [Value.str e.1 u1, Value.str (line0 (modeStr e.2.1)) u2].toArray } : Obj)) :: add)), rfl, htup2, ?fl, ?fp⟩
        case off => exact List.forall_mem_cons.mpr ⟨⟨by k_ne, by k_ne⟩, List.forall_mem_cons.mpr ⟨⟨by k_ne, by k_ne⟩, List.forall_mem_cons.mpr ⟨⟨by k_ne, by k_ne⟩, List.forall_mem_cons.mpr ⟨⟨by k_ne, by k_ne⟩, List.forall_mem_cons.mpr ⟨⟨by k_ne, by k_ne⟩, List.forall_mem_cons.mpr ⟨⟨by k_ne, by k_ne⟩, List.forall_mem_cons.mpr ⟨⟨by k_ne, by k_ne⟩, List.forall_mem_cons.mpr ⟨⟨by k_ne, by k_ne⟩, fun p hp => (List.mem_append.mp (show p ∈ ((T2, _) :: (((T1, ({ cls := .type "tuple", data := .seq [Value.str e.1 u1, Value.str (line0 (modeStr e.2.1)) u2].toArray } : Obj)) :: add))) ++ pool from hp)).elim (fun q => ⟨offJ p q, offI p q⟩) (fun q => ⟨neN (by have := hpl p q; omega), neN (by have := hpl p q; omega)⟩)⟩⟩⟩⟩⟩⟩⟩⟩
        case fr => intro y hy; walk_at "mine frame"
        case fl =>
          rw [log_step he, List.map_append]
          refine DatAll.append (hL.mono fun p hp => by simp only [List.mem_cons, hp, or_true]) (DatAll.one (DatIn.tuple (vs := [_, _]) (List.Mem.head _) ?_))
          unfold logLine
          rw [if_pos hpar]
          exact .cons (.str _ _) (.cons (.str _ _) .nil)
        case fp =>
          rw [plain_step he h3, List.map_append]
          exact DatAll.append (hP.mono fun p hp => by simp only [List.mem_cons, hp, or_true]) (DatAll.one (DatIn.tuple (vs := [_, _]) (.tail _ (List.Mem.head _)) (.cons (.str _ _) (.cons (.str _ _) .nil))))
      · have hpar' : ((i : Int).fmod 2 == 0) = false := par_odd hpar
        k_steps
        unfold Paused
        refine use_whole ((lL, W.listOf (List.toArray vsL) nL) :: (xL, instObj 182 dL) :: (dL, hDict w tL lL) :: ((I + 1, o9) :: (I, o8) :: (D, { cls := .type "tuple", data := .seq #[.ref xL, .ref xP] }) :: (lP, W.listOf (List.toArray (vsP ++ [Value.ref T1])) m1) :: (xP, instObj 182 dP) :: (dP, hDict w tP lP) :: (l, W.listOf (List.toArray vs) n) :: (((T1, ({ cls := .type "tuple", data := .seq [Value.str e.1 u1, Value.str (line0 (modeStr e.2.1)) u2].toArray } : Obj)) :: add) ++ pool))) (add2_spec w xL dL lL tL vsL nL _ _ _ _ _ _ _ (by omega) ((I + 1, o9) :: (I, o8) :: (D, { cls := .type "tuple", data := .seq #[.ref xL, .ref xP] }) :: (lP, W.listOf (List.toArray (vsP ++ [Value.ref T1])) m1) :: (xP, instObj 182 dP) :: (dP, hDict w tP lP) :: (l, W.listOf (List.toArray vs) n) :: (((T1, ({ cls := .type "tuple", data := .seq [Value.str e.1 u1, Value.str (line0 (modeStr e.2.1)) u2].toArray } : Obj)) :: add) ++ pool)) ?hl2 ⟨by k_ne, by k_ne, by k_ne⟩ kn.1 kn.2 (mode_plain _) (by rw [mode_len]; omega) ho1 ho2 ho3 ho4) (by k_asm) (by k_asm) (by k_asm) (by assumption) (by k_asm) (by first | assumption | exact rfl) (by ktr_room) (by ktr_units) ?hm2 ?_
        case hl2 => exact List.forall_mem_cons.mpr ⟨by k_ne, List.forall_mem_cons.mpr ⟨by k_ne, List.forall_mem_cons.mpr ⟨by k_ne, List.forall_mem_cons.mpr ⟨by k_ne, List.forall_mem_cons.mpr ⟨by k_ne, List.forall_mem_cons.mpr ⟨by k_ne, List.forall_mem_cons.mpr ⟨by k_ne, fun p hp => (List.mem_append.mp hp).elim (offL1 p) (fun q => neN (by have := hpl p q; omega))⟩⟩⟩⟩⟩⟩⟩
        case hm2 => exact List.forall_mem_cons.mpr ⟨by k_mem, List.forall_mem_cons.mpr ⟨by k_mem, List.forall_mem_cons.mpr ⟨by k_mem, List.forall_mem_cons.mpr ⟨by k_mem, List.forall_mem_cons.mpr ⟨by k_mem, List.forall_mem_cons.mpr ⟨by k_mem, List.forall_mem_cons.mpr ⟨by k_mem, List.forall_mem_cons.mpr ⟨by k_mem, List.forall_mem_cons.mpr ⟨by k_mem, List.forall_mem_cons.mpr ⟨by k_mem, List.forall_mem_cons.mpr ⟨by k_mem, fun p hp => by have hp2 : p ∈ add ++ pool := hp; simp only [List.cons_append, List.mem_cons, hp2, or_true]⟩⟩⟩⟩⟩⟩⟩⟩⟩⟩⟩
        rintro v5 h5 tk5 n5 F5 N5 ⟨rfl, T2, m2, w1, w2, hs5⟩
        have N4 := News.sub N5 hs5
        unfold addedLed at N4
        clear N5 hs5
        have htup2 : AllTup ((T2, ({ cls := .type "tuple", data := .seq [Value.str e.1 w1, Value.str (line2 (modeStr e.2.1) (hourStr (e.2.2 : Int))) w2].toArray } : Obj)) :: ((T1, ({ cls := .type "tuple", data := .seq [Value.str e.1 u1, Value.str (line0 (modeStr e.2.1)) u2].toArray } : Obj)) :: add)) := List.forall_mem_cons.mpr ⟨rfl, htup1⟩
        have offI := off_tup N4 (a := I) (o := o8) (by k_mem) (List.forall_mem_cons.mpr ⟨by k_mem, List.forall_mem_cons.mpr ⟨by k_mem, fun p hp => by simp only [List.mem_cons, List.mem_append, hp, or_true, true_or]⟩⟩) htup2 (by rw [c8]; exact fun e => absurd (Value.type.inj e) (by show ¬ "list_iterator" = "tuple"; decide))
        have offJ := off_tup N4 (a := I + 1) (o := o9) (by k_mem) (List.forall_mem_cons.mpr ⟨by k_mem, List.forall_mem_cons.mpr ⟨by k_mem, fun p hp => by simp only [List.mem_cons, List.mem_append, hp, or_true, true_or]⟩⟩) htup2 (by rw [c9]; exact fun e => absurd (Value.type.inj e) (by show ¬ "enumerate" = "tuple"; decide))
        dsimp only
        k_steps
        unfold Paused
        refine unr_end2 (by assumption) (by assumption) (by k_mem) (by k_mem) (List.forall_mem_cons.mpr ⟨by k_mem, List.forall_mem_cons.mpr ⟨by k_mem, List.forall_mem_cons.mpr ⟨by k_mem, List.forall_mem_cons.mpr ⟨by k_mem, List.forall_mem_cons.mpr ⟨by k_mem, List.forall_mem_cons.mpr ⟨by k_mem, List.forall_mem_cons.mpr ⟨by k_mem, List.forall_mem_cons.mpr ⟨by k_mem, List.forall_mem_cons.mpr ⟨by k_mem, List.forall_mem_cons.mpr ⟨by k_mem, fun p hp => by have hp2 : p ∈ add ++ pool := hp; simp only [List.cons_append, List.mem_cons, hp2, or_true]⟩⟩⟩⟩⟩⟩⟩⟩⟩⟩) ?off ⟨⟨by k_mem, trivial⟩, ?fr, vsL ++ [.ref T2], m2, vsP ++ [Value.ref T1], m1, (T2, _) :: (((T1, ({ cls := .type "tuple", data := .seq [Value.str e.1 u1, Value.str (line0 (modeStr e.2.1)) u2].toArray } : Obj)) :: add)), rfl, htup2, ?fl, ?fp⟩
        case off => exact List.forall_mem_cons.mpr ⟨⟨by k_ne, by k_ne⟩, List.forall_mem_cons.mpr ⟨⟨by k_ne, by k_ne⟩, List.forall_mem_cons.mpr ⟨⟨by k_ne, by k_ne⟩, List.forall_mem_cons.mpr ⟨⟨by k_ne, by k_ne⟩, List.forall_mem_cons.mpr ⟨⟨by k_ne, by k_ne⟩, List.forall_mem_cons.mpr ⟨⟨by k_ne, by k_ne⟩, List.forall_mem_cons.mpr ⟨⟨by k_ne, by k_ne⟩, List.forall_mem_cons.mpr ⟨⟨by k_ne, by k_ne⟩, fun p hp => (List.mem_append.mp (show p ∈ ((T2, _) :: (((T1, ({ cls := .type "tuple", data := .seq [Value.str e.1 u1, Value.str (line0 (modeStr e.2.1)) u2].toArray } : Obj)) :: add))) ++ pool from hp)).elim (fun q => ⟨offJ p q, offI p q⟩) (fun q => ⟨neN (by have := hpl p q; omega), neN (by have := hpl p q; omega)⟩)⟩⟩⟩⟩⟩⟩⟩⟩
        case fr => intro y hy; walk_at "mine frame"
        case fl =>
          rw [log_step he, List.map_append]
          refine DatAll.append (hL.mono fun p hp => by simp only [List.mem_cons, hp, or_true]) (DatAll.one (DatIn.tuple (vs := [_, _]) (List.Mem.head _) ?_))
          unfold logLine
          rw [if_neg hpar]
          exact .cons (.str _ _) (.cons (.str _ _) .nil)
        case fp =>
          rw [plain_step he h3, List.map_append]
          exact DatAll.append (hP.mono fun p hp => by simp only [List.mem_cons, hp, or_true]) (DatAll.one (DatIn.tuple (vs := [_, _]) (.tail _ (List.Mem.head _)) (.cons (.str _ _) (.cons (.str _ _) .nil))))
    · have h3' : ¬ ((i : Int) < 3) := by omega
      by_cases hpar : i % 2 = 0
      · have hpar' : ((i : Int).fmod 2 == 0) = true := par_even hpar
        k_steps
        unfold Paused
        refine use_whole ((lL, W.listOf (List.toArray vsL) nL) :: (xL, instObj 182 dL) :: (dL, hDict w tL lL) :: ((I + 1, o9) :: (I, o8) :: (D, { cls := .type "tuple", data := .seq #[.ref xL, .ref xP] }) :: (lP, W.listOf (List.toArray (vsP)) nP) :: (xP, instObj 182 dP) :: (dP, hDict w tP lP) :: (l, W.listOf (List.toArray vs) n) :: (add ++ pool))) (add1_spec w xL dL lL tL vsL nL _ _ _ _ _ _ 0 (by omega) ((I + 1, o9) :: (I, o8) :: (D, { cls := .type "tuple", data := .seq #[.ref xL, .ref xP] }) :: (lP, W.listOf (List.toArray (vsP)) nP) :: (xP, instObj 182 dP) :: (dP, hDict w tP lP) :: (l, W.listOf (List.toArray vs) n) :: (add ++ pool)) ?hl2 ⟨by k_ne, by k_ne, by k_ne⟩ kn.1 kn.2 (mode_plain _) (by rw [mode_len]; omega) ho1 ho2 ho3 ho4) (by k_asm) (by k_asm) (by k_asm) (by assumption) (by k_asm) (by first | assumption | exact rfl) (by ktr_room) (by ktr_units) ?hm2 ?_
        case hl2 => exact List.forall_mem_cons.mpr ⟨by k_ne, List.forall_mem_cons.mpr ⟨by k_ne, List.forall_mem_cons.mpr ⟨by k_ne, List.forall_mem_cons.mpr ⟨by k_ne, List.forall_mem_cons.mpr ⟨by k_ne, List.forall_mem_cons.mpr ⟨by k_ne, List.forall_mem_cons.mpr ⟨by k_ne, fun p hp => (List.mem_append.mp hp).elim (offL p) (fun q => neN (by have := hpl p q; omega))⟩⟩⟩⟩⟩⟩⟩
        case hm2 => exact List.forall_mem_cons.mpr ⟨by k_mem, List.forall_mem_cons.mpr ⟨by k_mem, List.forall_mem_cons.mpr ⟨by k_mem, List.forall_mem_cons.mpr ⟨by k_mem, List.forall_mem_cons.mpr ⟨by k_mem, List.forall_mem_cons.mpr ⟨by k_mem, List.forall_mem_cons.mpr ⟨by k_mem, List.forall_mem_cons.mpr ⟨by k_mem, List.forall_mem_cons.mpr ⟨by k_mem, List.forall_mem_cons.mpr ⟨by k_mem, fun p hp => by have hp2 : p ∈ add ++ pool := hp; simp only [List.cons_append, List.mem_cons, hp2, or_true]⟩⟩⟩⟩⟩⟩⟩⟩⟩⟩
        rintro v5 h5 tk5 n5 F5 N5 ⟨rfl, T2, m2, w1, w2, hs5⟩
        have N4 := News.sub N5 hs5
        unfold addedLed at N4
        clear N5 hs5
        have htup2 : AllTup ((T2, ({ cls := .type "tuple", data := .seq [Value.str e.1 w1, Value.str (line1 (modeStr e.2.1) (hourStr (e.2.2 : Int))) w2].toArray } : Obj)) :: add) := List.forall_mem_cons.mpr ⟨rfl, htup⟩
        have offI := off_tup N4 (a := I) (o := o8) (by k_mem) (List.forall_mem_cons.mpr ⟨by k_mem, fun p hp => by simp only [List.mem_cons, List.mem_append, hp, or_true, true_or]⟩) htup2 (by rw [c8]; exact fun e => absurd (Value.type.inj e) (by show ¬ "list_iterator" = "tuple"; decide))
        have offJ := off_tup N4 (a := I + 1) (o := o9) (by k_mem) (List.forall_mem_cons.mpr ⟨by k_mem, fun p hp => by simp only [List.mem_cons, List.mem_append, hp, or_true, true_or]⟩) htup2 (by rw [c9]; exact fun e => absurd (Value.type.inj e) (by show ¬ "enumerate" = "tuple"; decide))
        dsimp only
        k_steps
        unfold Paused
        refine unr_end2 (by assumption) (by assumption) (by k_mem) (by k_mem) (List.forall_mem_cons.mpr ⟨by k_mem, List.forall_mem_cons.mpr ⟨by k_mem, List.forall_mem_cons.mpr ⟨by k_mem, List.forall_mem_cons.mpr ⟨by k_mem, List.forall_mem_cons.mpr ⟨by k_mem, List.forall_mem_cons.mpr ⟨by k_mem, List.forall_mem_cons.mpr ⟨by k_mem, List.forall_mem_cons.mpr ⟨by k_mem, List.forall_mem_cons.mpr ⟨by k_mem, fun p hp => by have hp2 : p ∈ add ++ pool := hp; simp only [List.cons_append, List.mem_cons, hp2, or_true]⟩⟩⟩⟩⟩⟩⟩⟩⟩) ?off ⟨⟨by k_mem, trivial⟩, ?fr, vsL ++ [.ref T2], m2, vsP, nP, (T2, _) :: (add), rfl, htup2, ?fl, ?fp⟩
        case off => exact List.forall_mem_cons.mpr ⟨⟨by k_ne, by k_ne⟩, List.forall_mem_cons.mpr ⟨⟨by k_ne, by k_ne⟩, List.forall_mem_cons.mpr ⟨⟨by k_ne, by k_ne⟩, List.forall_mem_cons.mpr ⟨⟨by k_ne, by k_ne⟩, List.forall_mem_cons.mpr ⟨⟨by k_ne, by k_ne⟩, List.forall_mem_cons.mpr ⟨⟨by k_ne, by k_ne⟩, List.forall_mem_cons.mpr ⟨⟨by k_ne, by k_ne⟩, List.forall_mem_cons.mpr ⟨⟨by k_ne, by k_ne⟩, fun p hp => (List.mem_append.mp (show p ∈ ((T2, _) :: (add)) ++ pool from hp)).elim (fun q => ⟨offJ p q, offI p q⟩) (fun q => ⟨neN (by have := hpl p q; omega), neN (by have := hpl p q; omega)⟩)⟩⟩⟩⟩⟩⟩⟩⟩
        case fr => intro y hy; walk_at "mine frame"
        case fl =>
          rw [log_step he, List.map_append]
          refine DatAll.append (hL.mono fun p hp => by simp only [List.mem_cons, hp, or_true]) (DatAll.one (DatIn.tuple (vs := [_, _]) (List.Mem.head _) ?_))
          unfold logLine
          rw [if_pos hpar]
          exact .cons (.str _ _) (.cons (.str _ _) .nil)
        case fp =>
          rw [plain_stay h3]
          exact hP.mono fun p hp => by simp only [List.mem_cons, hp, or_true]
      · have hpar' : ((i : Int).fmod 2 == 0) = false := par_odd hpar
        k_steps
        unfold Paused
        refine use_whole ((lL, W.listOf (List.toArray vsL) nL) :: (xL, instObj 182 dL) :: (dL, hDict w tL lL) :: ((I + 1, o9) :: (I, o8) :: (D, { cls := .type "tuple", data := .seq #[.ref xL, .ref xP] }) :: (lP, W.listOf (List.toArray (vsP)) nP) :: (xP, instObj 182 dP) :: (dP, hDict w tP lP) :: (l, W.listOf (List.toArray vs) n) :: (add ++ pool))) (add2_spec w xL dL lL tL vsL nL _ _ _ _ _ _ _ (by omega) ((I + 1, o9) :: (I, o8) :: (D, { cls := .type "tuple", data := .seq #[.ref xL, .ref xP] }) :: (lP, W.listOf (List.toArray (vsP)) nP) :: (xP, instObj 182 dP) :: (dP, hDict w tP lP) :: (l, W.listOf (List.toArray vs) n) :: (add ++ pool)) ?hl2 ⟨by k_ne, by k_ne, by k_ne⟩ kn.1 kn.2 (mode_plain _) (by rw [mode_len]; omega) ho1 ho2 ho3 ho4) (by k_asm) (by k_asm) (by k_asm) (by assumption) (by k_asm) (by first | assumption | exact rfl) (by ktr_room) (by ktr_units) ?hm2 ?_
        case hl2 => exact List.forall_mem_cons.mpr ⟨by k_ne, List.forall_mem_cons.mpr ⟨by k_ne, List.forall_mem_cons.mpr ⟨by k_ne, List.forall_mem_cons.mpr ⟨by k_ne, List.forall_mem_cons.mpr ⟨by k_ne, List.forall_mem_cons.mpr ⟨by k_ne, List.forall_mem_cons.mpr ⟨by k_ne, fun p hp => (List.mem_append.mp hp).elim (offL p) (fun q => neN (by have := hpl p q; omega))⟩⟩⟩⟩⟩⟩⟩
        case hm2 => exact List.forall_mem_cons.mpr ⟨by k_mem, List.forall_mem_cons.mpr ⟨by k_mem, List.forall_mem_cons.mpr ⟨by k_mem, List.forall_mem_cons.mpr ⟨by k_mem, List.forall_mem_cons.mpr ⟨by k_mem, List.forall_mem_cons.mpr ⟨by k_mem, List.forall_mem_cons.mpr ⟨by k_mem, List.forall_mem_cons.mpr ⟨by k_mem, List.forall_mem_cons.mpr ⟨by k_mem, List.forall_mem_cons.mpr ⟨by k_mem, fun p hp => by have hp2 : p ∈ add ++ pool := hp; simp only [List.cons_append, List.mem_cons, hp2, or_true]⟩⟩⟩⟩⟩⟩⟩⟩⟩⟩
        rintro v5 h5 tk5 n5 F5 N5 ⟨rfl, T2, m2, w1, w2, hs5⟩
        have N4 := News.sub N5 hs5
        unfold addedLed at N4
        clear N5 hs5
        have htup2 : AllTup ((T2, ({ cls := .type "tuple", data := .seq [Value.str e.1 w1, Value.str (line2 (modeStr e.2.1) (hourStr (e.2.2 : Int))) w2].toArray } : Obj)) :: add) := List.forall_mem_cons.mpr ⟨rfl, htup⟩
        have offI := off_tup N4 (a := I) (o := o8) (by k_mem) (List.forall_mem_cons.mpr ⟨by k_mem, fun p hp => by simp only [List.mem_cons, List.mem_append, hp, or_true, true_or]⟩) htup2 (by rw [c8]; exact fun e => absurd (Value.type.inj e) (by show ¬ "list_iterator" = "tuple"; decide))
        have offJ := off_tup N4 (a := I + 1) (o := o9) (by k_mem) (List.forall_mem_cons.mpr ⟨by k_mem, fun p hp => by simp only [List.mem_cons, List.mem_append, hp, or_true, true_or]⟩) htup2 (by rw [c9]; exact fun e => absurd (Value.type.inj e) (by show ¬ "enumerate" = "tuple"; decide))
        dsimp only
        k_steps
        unfold Paused
        refine unr_end2 (by assumption) (by assumption) (by k_mem) (by k_mem) (List.forall_mem_cons.mpr ⟨by k_mem, List.forall_mem_cons.mpr ⟨by k_mem, List.forall_mem_cons.mpr ⟨by k_mem, List.forall_mem_cons.mpr ⟨by k_mem, List.forall_mem_cons.mpr ⟨by k_mem, List.forall_mem_cons.mpr ⟨by k_mem, List.forall_mem_cons.mpr ⟨by k_mem, List.forall_mem_cons.mpr ⟨by k_mem, List.forall_mem_cons.mpr ⟨by k_mem, fun p hp => by have hp2 : p ∈ add ++ pool := hp; simp only [List.cons_append, List.mem_cons, hp2, or_true]⟩⟩⟩⟩⟩⟩⟩⟩⟩) ?off ⟨⟨by k_mem, trivial⟩, ?fr, vsL ++ [.ref T2], m2, vsP, nP, (T2, _) :: (add), rfl, htup2, ?fl, ?fp⟩
        case off => exact List.forall_mem_cons.mpr ⟨⟨by k_ne, by k_ne⟩, List.forall_mem_cons.mpr ⟨⟨by k_ne, by k_ne⟩, List.forall_mem_cons.mpr ⟨⟨by k_ne, by k_ne⟩, List.forall_mem_cons.mpr ⟨⟨by k_ne, by k_ne⟩, List.forall_mem_cons.mpr ⟨⟨by k_ne, by k_ne⟩, List.forall_mem_cons.mpr ⟨⟨by k_ne, by k_ne⟩, List.forall_mem_cons.mpr ⟨⟨by k_ne, by k_ne⟩, List.forall_mem_cons.mpr ⟨⟨by k_ne, by k_ne⟩, fun p hp => (List.mem_append.mp (show p ∈ ((T2, _) :: (add)) ++ pool from hp)).elim (fun q => ⟨offJ p q, offI p q⟩) (fun q => ⟨neN (by have := hpl p q; omega), neN (by have := hpl p q; omega)⟩)⟩⟩⟩⟩⟩⟩⟩⟩
        case fr => intro y hy; walk_at "mine frame"
        case fl =>
          rw [log_step he, List.map_append]
          refine DatAll.append (hL.mono fun p hp => by simp only [List.mem_cons, hp, or_true]) (DatAll.one (DatIn.tuple (vs := [_, _]) (List.Mem.head _) ?_))
          unfold logLine
          rw [if_neg hpar]
          exact .cons (.str _ _) (.cons (.str _ _) .nil)
        case fp =>
          rw [plain_stay h3]
          exact hP.mono fun p hp => by simp only [List.mem_cons, hp, or_true]
  case done =>
    rintro u news h9 tk9 ⟨vsL, nL, vsP, nP, add, rfl, htup, hL, hP⟩ F9 N9
    rw [enumItems_length, hvl, List.take_length] at hL hP
    k_steps
    refine ⟨_, lL, xL, dL, tL, vsL, nL, lP, xP, dP, tP, vsP, nP, add, rfl, ⟨by k_ne, by k_ne, by k_ne⟩, ⟨by k_ne, by k_ne, by k_ne⟩, hL, hP, ?_⟩
    refine List.forall_mem_cons.mpr ⟨by k_mem, ?_⟩
    intro p hp
    simp only [hdr, List.mem_append, List.mem_cons, List.not_mem_nil, or_false, or_assoc] at hp ⊢
    rcases hp with h | h | h | h | h | h | h | h | h <;> simp only [h, true_or, or_true]
theorem walk2 (hd : DatAll pool vs (es.map evD)) (hok : ∀ e ∈ es, EvOk e) (hlen : es.length ≤ 20) : CtrTo w 310 [.ref l] [] 8 100 ((l, W.listOf vs.toArray n) :: pool) (Logged w ((l, W.listOf vs.toArray n) :: pool) es)  epsC.2 (entP entC) := by with_unfolding_all exact walk hd hok hlen
theorem fin : epsP epsC := by
  with_unfolding_all exact fun hd hok hlen cxB cxF cxX cxN cxT cxk cxd cxu cxr => ent.2 hd hok hlen ⟨fun x0 x1 x2 => of_worst (P := entP) (h := entN) (by with_unfolding_all exact walk2 hd hok hlen cxB cxF cxX cxN cxT cxk cxd cxu cxr) (x0, x1, x2)⟩ cxB cxF cxX cxN cxT cxk cxd cxu cxr
end E_logged_spec
theorem logged_spec (w : World) (l : Addr) (vs : List Value) (n : Nat) (es : List Ev) (pool : Led) (hd : DatAll pool vs (es.map evD)) (hok : ∀ e ∈ es, EvOk e) (hlen : es.length ≤ 20) : Ctr w 310 [.ref l] [] 8 100 ((l, W.listOf vs.toArray n) :: pool) (Logged w ((l, W.listOf vs.toArray n) :: pool) es) := ctr_of fun c9 => of_worst (P := E_logged_spec.epsP) (h := E_logged_spec.epsN) (by with_unfolding_all exact E_logged_spec.fin) ((w, l, vs, n, es, pool), c9) hd hok hlen
end
end
end
end
end
end
end
theorem sweepP7Fa {M : Model} {A : Around} {env : Env} {Q : Flow → Shared → Prop} {E : Value → Shared → Prop} {s : Shared} (h : wpAny M A (execs [] env) Q E s) : wpAny M A (execs [] env) Q E s := by w_top off; first | (walk1; fail "swept") | exact h
section
open PyProof.V PySem.Spec
local macro_rules | `(tactic| k_all) => `(tactic| k_extra "mk1")
section
open PyProof.V PySem.Spec
local macro_rules | `(tactic| walk_at "UnrEndW") => `(tactic| k_extra "mv7")
theorem sweepP7F {M : Model} {A : Around} {env : Env} {Q : Flow → Shared → Prop} {E : Value → Shared → Prop} {s : Shared} (h : wpAny M A (execs [] env) Q E s) : wpAny M A (execs [] env) Q E s := by w_top off; first | (walk1; fail "swept") | exact h
section
open PyProof.V PySem.Spec
/-- as Back, and what is new is new to the heap -/
noncomputable def BackF (h₀ : Heap) (L : Addr) (m : Str → Option Value) (s : Shared) (cells : Led) (Post : Led → Value → Prop) (Q : Value → Shared → Prop) : Prop :=
  ∀ v h' tk news', Fr h₀ L h' m → News h₀ L h' news' → Keep s.heap h' (cells.map (·.1)) → (∀ p ∈ news', p.1 ∉ cells.map (·.1) → s.heap.get? p.1 = none) → Post news' v → Q v { s with heap := h', toks := tk }
noncomputable def CtrF (w : World) (f : Addr) (pos : List Value) (kw : List (Str × Value)) (d u : Nat) (cells : Led) (Post : Led → Value → Prop) : Prop :=
  ∀ (p : Program) (loose : List Str) (mean : ExcName → Option Value) (mg mb : Str → Option Value) (dp un : Nat) (gd : Option (List Code)) (cn : Str) (cs : Scope) (a : Addr) (ccd : Value) (cl : List (Str × Addr)) (outer : List Env)
    (A₀ : Around) (base h₀ : Heap) (L : Addr) (m : Str → Option Value) (s : Shared) (Q E : Value → Shared → Prop),
    Below A₀ base outer h₀ → Fr h₀ L s.heap m → (K w.params).In h₀ → News h₀ L s.heap cells → Top p loose mean mg mb h₀ → cs.kind = .function → dp + d < recursionLimit → un + u < cLine → BackF h₀ L m s cells Post Q →
    wpAny (model prog w) (ktrTop dp un gd cn cs L a ccd cl outer) (call (.ref f) pos kw) Q E s
noncomputable def CtrFAt (w : World) (f : Addr) (pos : List Value) (kw : List (Str × Value)) (d u : Nat) (cells : Led) (Post : Led → Value → Prop) (c : Cx) : Prop :=
  Below c.A₀ c.base c.outer c.h₀ → Fr c.h₀ c.L c.s.heap c.m → (K w.params).In c.h₀ → News c.h₀ c.L c.s.heap cells → Top c.p c.loose c.mean c.mg c.mb c.h₀ → c.cs.kind = .function → c.dp + d < recursionLimit → c.un + u < cLine → BackF c.h₀ c.L c.m c.s cells Post c.Q →
    wpAny (model prog w) (ktrTop c.dp c.un c.gd c.cn c.cs c.L c.a c.ccd c.cl c.outer) (call (.ref f) pos kw) c.Q c.E c.s
theorem ctrF_of {w : World} {f : Addr} {pos : List Value} {kw : List (Str × Value)} {d u : Nat} {cells : Led} {Post : Led → Value → Prop} (h : ∀ c : Cx, CtrFAt w f pos kw d u cells Post c) : CtrF w f pos kw d u cells Post :=
  fun p loose mean mg mb dp un gd cn cs a ccd cl outer A₀ base h₀ L m s Q E => h ⟨p, loose, mean, mg, mb, dp, un, gd, cn, cs, a, ccd, cl, outer, A₀, base, h₀, L, m, s, Q, E⟩
noncomputable def CtrFTo (w : World) (f9 : Addr) (pos9 : List Value) (kw9 : List (Str × Value)) (d u : Nat) (cells : Led) (Post : Led → Value → Prop) (c : Cx) (G : Prop) : Prop :=
  Below c.A₀ c.base c.outer c.h₀ → Fr c.h₀ c.L c.s.heap c.m → (K w.params).In c.h₀ → News c.h₀ c.L c.s.heap cells → Top c.p c.loose c.mean c.mg c.mb c.h₀ → c.cs.kind = .function → c.dp + d < recursionLimit → c.un + u < cLine → BackF c.h₀ c.L c.m c.s cells Post c.Q → G
theorem leave_backF {h₀ g : Heap} {L L' : Addr} {m m' : Str → Option Value} {s s' : Shared} {cells news' : Led} {Post : Led → Value → Prop} {Q E : Value → Shared → Prop} {v : Value}
    (hb : BackF h₀ L m s cells Post Q) (F' : Fr g L' s'.heap m') (N' : News g L' s'.heap news') (kG : GSub s.heap g (cells.map (·.1))) (es : s' = { s with heap := s'.heap, toks := s'.toks }) (hp : Post news' v) :
    LeaveK h₀ L m g (fun r s' => match r with | .ok (.ret v) => Q v s' | .ok _ => False | .error e => E e s') v s' :=
  leaveK_ F' N' fun kF kN => es ▸ hb v s'.heap s'.toks news' kF kN (fun b o e n => F'.keep b o (kG b o e n)) (fun p hp hn => by
    cases q : s.heap.get? p.1 with
    | none => rfl
    | some o => have := kG _ o q hn; rw [(N' p hp).2.2] at this; cases this) hp
/-- a copy of a list beside what stood -/
noncomputable def CopiedF (cells : Led) (vs : List Value) (news' : Led) (v : Value) : Prop := ∃ (D : Addr) (n' : Nat), v = .ref D ∧ D ∉ cells.map (·.1) ∧ ∀ p ∈ (D, W.listOf vs.toArray n') :: cells, p ∈ news'
local macro_rules | `(tactic| walk_at "LeaveK") => `(tactic| k_extra "mv29")
namespace E_itemsF_spec
noncomputable def epsP (q : (World × Addr × Addr × Addr × Tok × (List Value) × Nat) × Cx) : Prop := (fun (w : World) (x : Addr) (dx : Addr) (l : Addr) (t : Tok) (vs : List Value) (n : Nat) (cx9 : Cx) => ∀ (hvs : vs.length ≤ 100) (hne : @Ne Nat l x ∧ @Ne Nat l dx ∧ @Ne Nat x dx), CtrFAt w 146 [.ref x] [] 1 16 [(l, W.listOf vs.toArray n), (x, instObj 182 dx), (dx, hDict w t l)] (CopiedF [(l, W.listOf vs.toArray n), (x, instObj 182 dx), (dx, hDict w t l)] vs)  cx9) q.1.1 q.1.2.1 q.1.2.2.1 q.1.2.2.2.1 q.1.2.2.2.2.1 q.1.2.2.2.2.2.1 q.1.2.2.2.2.2.2 q.2
theorem epsN : Nonempty ((World × Addr × Addr × Addr × Tok × (List Value) × Nat) × Cx) := ⟨((Classical.choice neWorld, default, default, default, default, default, default), Classical.choice neCx)⟩
@[irreducible] noncomputable def epsC : (World × Addr × Addr × Addr × Tok × (List Value) × Nat) × Cx := worst epsN epsP
@[irreducible] noncomputable def w : World := epsC.1.1
@[irreducible] noncomputable def x : Addr := epsC.1.2.1
@[irreducible] noncomputable def dx : Addr := epsC.1.2.2.1
@[irreducible] noncomputable def l : Addr := epsC.1.2.2.2.1
@[irreducible] noncomputable def t : Tok := epsC.1.2.2.2.2.1
@[irreducible] noncomputable def vs : List Value := epsC.1.2.2.2.2.2.1
@[irreducible] noncomputable def n : Nat := epsC.1.2.2.2.2.2.2
noncomputable def ent : (TT9 : Heap → Addr → Heap → Prop) ×' (∀ (hvs : vs.length ≤ 100) (hne : @Ne Nat l x ∧ @Ne Nat l dx ∧ @Ne Nat x dx), Hid (∀ x0 x1 x2, TT9 x0 x1 x2) → CtrFAt w 146 [.ref x] [] 1 16 [(l, W.listOf vs.toArray n), (x, instObj 182 dx), (dx, hDict w t l)] (CopiedF [(l, W.listOf vs.toArray n), (x, instObj 182 dx), (dx, hDict w t l)] vs)  epsC.2) :=
  ⟨_, fun hvs hne H => by
    intro cxB cxF cxX cxN cxT cxk cxd cxu cxr
    ((refine wpAny_call ?_; k_dflt (refine' code_defG ?z32k1 ?z32k2 ?z32k3 ?z32k4 ?z32k5 ?z32kA ?z32kF ?z32kK ?z32k6 ?z32k7 ?z32k8 ?z32k9 ?z32kB ?_ ?z32c2 ?z32c3 ?z32c4 ?z32c5; (case z32kA => exact rfl); (case z32kF => exact rfl); (case z32kK => assumption); (case z32k1 => k_asm); (case z32k2 => k_asm); (case z32k3 => k_asm); (case z32k4 => k_asm); (case z32k5 => k_asm); (case z32k6 => k_is); (case z32k7 => k_is); (case z32k8 => ktr_room); (case z32k9 => first | exact BindsTo.of_eq rfl | exact binds_K (by k_in) rfl (by k_is) rfl rfl rfl | fail "mine enter: no rule for these arguments"); (case z32c5 => decide); (case z32kB => exact locs rfl); (case z32c2 => exact rfl); (case z32c3 => exact rfl); (case z32c4 => exact rfl); k_whole)))
    exact H.out⟩
theorem entN : Nonempty (Heap × Addr × Heap) := ⟨(default, 0, default)⟩
noncomputable def entP (q : Heap × Addr × Heap) : Prop := ent.1 q.1 q.2.1 q.2.2
@[irreducible] noncomputable def entC : Heap × Addr × Heap := worst entN entP
@[irreducible] noncomputable def gE : Heap := entC.1
@[irreducible] noncomputable def LE : Addr := entC.2.1
@[irreducible] noncomputable def hE : Heap := entC.2.2
theorem walk (hvs : vs.length ≤ 100) (hne : @Ne Nat l x ∧ @Ne Nat l dx ∧ @Ne Nat x dx) : CtrFTo w 146 [.ref x] [] 1 16 [(l, W.listOf vs.toArray n), (x, instObj 182 dx), (dx, hDict w t l)] (CopiedF [(l, W.listOf vs.toArray n), (x, instObj 182 dx), (dx, hDict w t l)] vs)  epsC.2 (ent.1 gE LE hE) := by
  (intro cxB cxF cxX cxN cxT cxk cxd cxu cxr); walk_at "mine pure1"
  k_steps
  rw [slicePick_all]
  refine ⟨_, 0, rfl, ?_, fun _ h => h⟩
  simp only [List.map_cons, List.map_nil, List.mem_cons, List.not_mem_nil, or_false, not_or]
  have q := (by assumption : News _ _ _ [_, _, _])
  have q1 := ltN (Heap.lt_size (q _ (.head _)).1)
  have q2 := ltN (Heap.lt_size (q _ (.tail _ (.head _))).1)
  have q3 := ltN (Heap.lt_size (q _ (.tail _ (.tail _ (.head _)))).1)
  dsimp only at q1 q2 q3
  exact ⟨by k_ne, by k_ne, by k_ne⟩
theorem walk2 (hvs : vs.length ≤ 100) (hne : @Ne Nat l x ∧ @Ne Nat l dx ∧ @Ne Nat x dx) : CtrFTo w 146 [.ref x] [] 1 16 [(l, W.listOf vs.toArray n), (x, instObj 182 dx), (dx, hDict w t l)] (CopiedF [(l, W.listOf vs.toArray n), (x, instObj 182 dx), (dx, hDict w t l)] vs)  epsC.2 (entP entC) := by with_unfolding_all exact walk hvs hne
theorem fin : epsP epsC := by
  with_unfolding_all exact fun hvs hne cxB cxF cxX cxN cxT cxk cxd cxu cxr => ent.2 hvs hne ⟨fun x0 x1 x2 => of_worst (P := entP) (h := entN) (by with_unfolding_all exact walk2 hvs hne cxB cxF cxX cxN cxT cxk cxd cxu cxr) (x0, x1, x2)⟩ cxB cxF cxX cxN cxT cxk cxd cxu cxr
end E_itemsF_spec
theorem itemsF_spec (w : World) (x dx l : Addr) (t : Tok) (vs : List Value) (n : Nat) (hvs : vs.length ≤ 100) (hne : @Ne Nat l x ∧ @Ne Nat l dx ∧ @Ne Nat x dx) : CtrF w 146 [.ref x] [] 1 16 [(l, W.listOf vs.toArray n), (x, instObj 182 dx), (dx, hDict w t l)] (CopiedF [(l, W.listOf vs.toArray n), (x, instObj 182 dx), (dx, hDict w t l)] vs) := ctrF_of fun c9 => of_worst (P := E_itemsF_spec.epsP) (h := E_itemsF_spec.epsN) (by with_unfolding_all exact E_itemsF_spec.fin) ((w, x, dx, l, t, vs, n), c9) hvs hne
section
variable {w : World} {f : Addr} {pos : List Value} {kw : List (Str × Value)} {d u : Nat} {cells all : Led} {Post : Led → Value → Prop}
  {p : Program} {loose : List Str} {mean : ExcName → Option Value} {mg mb : Str → Option Value} {dp un : Nat} {gd : Option (List Code)} {cn : Str} {cs : Scope} {a : Addr} {ccd : Value} {cl : List (Str × Addr)} {outer : List Env}
  {A₀ : Around} {base h₀ : Heap} {L : Addr} {m : Str → Option Value} {s : Shared} {Q E : Value → Shared → Prop}
/-- items(): a new list, all else stays -/
theorem use_items {x dx l : Addr} {t : Tok} {vs : List Value} {n : Nat} (hvs : vs.length ≤ 100) (hne : @Ne Nat l x ∧ @Ne Nat l dx ∧ @Ne Nat x dx) (B : Below A₀ base outer h₀) (F : Fr h₀ L s.heap m) (X : (K w.params).In h₀) (N : News h₀ L s.heap all) (T : Top p loose mean mg mb h₀) (hk : cs.kind = .function) (hd : dp + 1 < recursionLimit) (hu : un + 16 < cLine)
    (hm : ∀ p ∈ [(l, W.listOf vs.toArray n), (x, instObj 182 dx), (dx, hDict w t l)], p ∈ all)
    (h : ∀ D n' h' tk, Fr h₀ L h' m → News h₀ L h' ((D, W.listOf vs.toArray n') :: all) → (∀ p ∈ all, @Ne Nat p.1 D) → Q (.ref D) { s with heap := h', toks := tk }) :
    wpAny (model prog w) (ktrTop dp un gd cn cs L a ccd cl outer) (call (.ref 146) [.ref x] []) Q E s :=
  itemsF_spec w x dx l t vs n hvs hne _ _ _ _ _ _ _ _ _ _ _ _ _ _ _ _ _ _ _ _ _ _ B F X (News.sub N hm) T hk hd hu fun v h' tk news' F' N' k fr hp => by
    obtain ⟨D, n', rfl, hD, hs⟩ := hp
    have hD2 := List.forall_mem_cons.mp hs
    refine h D n' h' tk F' (fun p hp => ?_) (fun p hp e => ?_)
    · rcases List.mem_cons.mp hp with rfl | hp
      · exact N' _ hD2.1
      · exact News.keep N (keep_all (News.sub N hm) N' k (fun _ hb => hb) hD2.2) (fun _ _ => List.not_mem_nil) p hp
    · have q := fr _ hD2.1 hD
      have q2 := (N p hp).1
      rw [show p.1 = D from e, q] at q2
      cases q2
end
end
end
end
end
theorem sweepP19a {M : Model} {A : Around} {env : Env} {Q : Flow → Shared → Prop} {E : Value → Shared → Prop} {s : Shared} (h : wpAny M A (execs [] env) Q E s) : wpAny M A (execs [] env) Q E s := by w_top off; first | (walk1; fail "swept") | exact h
section
open PyProof.V PySem.Spec
local macro_rules | `(tactic| walk_at "UnrEndW") => `(tactic| k_extra "mv7")
local macro_rules | `(tactic| walk_at "UnrEndW") => `(tactic| refine Paused.intro ?_)
section
open PyProof.V PySem.Spec
local macro_rules | `(tactic| walk_at "call builtin:list.append") => `(tactic| refine Paused.intro ?_)
section
open PyProof.V PySem.Spec
local macro_rules | `(tactic| walk_at "exec For Tuple Call cons nil") => `(tactic| refine Paused.intro ?_)
section
open PyProof.V PySem.Spec
local macro_rules | `(tactic| walk_at "mine frame") => `(tactic| (rename_i y9 hy9; (repeat first | rw [if_neg (off_st hy9 (by decide +kernel))] | rw [if_neg (off_in hy9)])))
section
open PyProof.V PySem.Spec
local macro_rules | `(tactic| k_all) => `(tactic| k_extra "mk1")
local macro_rules | `(tactic| k_all) => `(tactic| k_extra "mk3")
section
open PyProof.V PySem.Spec
local macro_rules | `(tactic| walk_at "LeaveK") => `(tactic| k_extra "mv6")
local macro_rules | `(tactic| walk_at "LeaveK") => `(tactic| k_extra "mv1")
local macro_rules | `(tactic| walk_at "LeaveK") => `(tactic| k_extra "mv29")
section
open PyProof.V PySem.Spec
local macro_rules | `(tactic| walk_at "call ref") => `(tactic| k_extra "mv27")
local macro_rules | `(tactic| walk_at "call ref") => `(tactic| ((with_reducible show wpAny _ _ (call (Value.ref 146) _ _) _ _ _); refine Paused.intro ?_))
local macro_rules | `(tactic| walk_at "call ref") => `(tactic| ((with_reducible show wpAny _ _ (call (Value.ref 193) _ _) _ _ _); refine Paused.intro ?_))
local macro_rules | `(tactic| walk_at "call ref") => `(tactic| ((with_reducible show wpAny _ _ (call (Value.ref 200) _ _) _ _ _); refine Paused.intro ?_))
local macro_rules | `(tactic| walk_at "call ref") => `(tactic| ((with_reducible show wpAny _ _ (call (Value.ref 97) _ _) _ _ _); refine Paused.intro ?_))
section
open PyProof.V PySem.Spec
local macro_rules | `(tactic| walk_at "call type:int") => `(tactic| refine Paused.intro ?_)
theorem sweepP19 {M : Model} {A : Around} {env : Env} {Q : Flow → Shared → Prop} {E : Value → Shared → Prop} {s : Shared} (h : wpAny M A (execs [] env) Q E s) : wpAny M A (execs [] env) Q E s := by w_top off; first | (walk1; fail "swept") | exact h
section
open PyProof.V PySem.Spec
theorem unr_end0 {h₀ : Heap} {L I : Addr} {o : Obj} {all news' : Led} {rest : (Str → Option Value) → Led → Prop} {s₁ : Shared} {h' : Heap} {tk : Nat} {m' : Str → Option Value} (F : Fr h₀ L h' m') (N : News h₀ L h' all)
    (h1 : (I, o) ∈ all) (hs : ∀ p ∈ news', p ∈ all) (off : ∀ p ∈ news', @Ne Nat p.1 I) (r : rest m' news') : UnrEndW h₀ L s₁ [(I, o)] rest { s₁ with heap := h', toks := tk } :=
  ⟨h', tk, m', news', rfl, F, fun p hp => by
    rcases List.mem_append.mp hp with hp | hp
    · rw [List.mem_singleton.mp hp]; exact N _ h1
    · exact N p (hs p hp), fun p hp q hq => by rw [List.mem_singleton.mp hq]; exact off p hp, r⟩
noncomputable def pushN (hs : List Nat) : Nat → List Nat
  | 0 => []
  | i + 1 => sdGo (hs.getD i 0) ((pushN hs i).length + 1) (pushN hs i ++ [hs.getD i 0]) (pushN hs i).length
noncomputable def popStep : List Nat → List Nat
  | [] => []
  | [_] => []
  | _ :: b :: r => su ((b :: r).getLast (List.cons_ne_nil _ _)) ((b :: r).getLast (List.cons_ne_nil _ _) :: (b :: r).dropLast)
noncomputable def popN (ks : List Nat) : Nat → List Nat
  | 0 => ks
  | i + 1 => popStep (popN ks i)
noncomputable def pushOk (hs : List Nat) (i : Nat) : Bool := (pushN hs i).length == i && (pushN hs i).all fun k => (hs.take i).contains k
noncomputable def popOk (hs : List Nat) (i : Nat) : Bool := (popN (pushN hs hs.length) i).head? == some i && decide (popN (pushN hs hs.length) i).Nodup && (popN (pushN hs hs.length) i).all (fun k => hs.contains k) && (popN (pushN hs hs.length) i).length == hs.length - i
noncomputable def heapOk (hs : List Nat) : Bool := (List.range (hs.length + 1)).all (pushOk hs) && (List.range hs.length).all (popOk hs)
noncomputable def row10 (q : Str × Str) : Str := Txt.slice q.2 none (some 10)
noncomputable def byHour (hs : List Nat) (qs : List (Str × Str)) (h : Nat) : Str × Str := ((qs.getD (hs.idxOf h) (Str.empty, Str.empty)).1, row10 (qs.getD (hs.idxOf h) (Str.empty, Str.empty)))
noncomputable def tabN (f : Nat → Str × Str) : Nat → List (Str × Str)
  | 0 => []
  | i + 1 => stayed (f i).1 (tabN f i) ++ [f i]
noncomputable def LogItem (q : Str × Str) (h : Nat) : Prop := q.1 ∈ menu ∧ q.2.length ≤ 100 ∧ PySem.intText? (Txt.slice q.2 (some 16) (some 18)) = some (h : Int) ∧ Plain (row10 q)
theorem push_facts {hs : List Nat} (h : heapOk hs = true) {i : Nat} (hi : i ≤ hs.length) : (pushN hs i).length = i ∧ ∀ k ∈ pushN hs i, k ∈ hs.take i := by
  unfold heapOk at h
  have h1 := List.all_eq_true.mp (Bool.and_eq_true_iff.mp h).1 i (List.mem_range.mpr (by omega))
  unfold pushOk at h1
  rw [Bool.and_eq_true] at h1
  exact ⟨by simpa using h1.1, fun k hk => by simpa using List.all_eq_true.mp h1.2 k hk⟩
theorem pop_facts {hs : List Nat} (h : heapOk hs = true) {i : Nat} (hi : i < hs.length) : (popN (pushN hs hs.length) i).head? = some i ∧ (popN (pushN hs hs.length) i).Nodup ∧ (∀ k ∈ popN (pushN hs hs.length) i, k ∈ hs) ∧ (popN (pushN hs hs.length) i).length = hs.length - i := by
  unfold heapOk at h
  have h1 := List.all_eq_true.mp (Bool.and_eq_true_iff.mp h).2 i (List.mem_range.mpr hi)
  unfold popOk at h1
  simp only [Bool.and_eq_true, decide_eq_true_eq] at h1
  obtain ⟨⟨⟨a, b⟩, c⟩, d⟩ := h1
  exact ⟨by simpa using a, b, fun k hk => by simpa using List.all_eq_true.mp c k hk, by simpa using d⟩
noncomputable abbrev keyObj (h : Nat) (nm rw : Str) (t1 t2 t3 : Tok) : Obj := { cls := .type "tuple", data := .seq #[.int (h : Int) t1, .str nm t2, .str rw t3] }
/-- the tuples that went onto the heap -/
noncomputable def Keyed (add : Led) (g : Nat → Addr) (hs : List Nat) (qs : List (Str × Str)) (i : Nat) : Prop := ∀ (j h : Nat) q, j < i → hs[j]? = some h → qs[j]? = some q → ∃ t1 t2 t3, (g h, keyObj h q.1 (row10 q) t1 t2 t3) ∈ add
noncomputable def upd (g : Nat → Addr) (hh : Nat) (T : Addr) : Nat → Addr := fun k => if k = hh then T else g k
theorem upd_same (g : Nat → Addr) (hh : Nat) (T : Addr) : upd g hh T hh = T := if_pos rfl
theorem upd_ne {g : Nat → Addr} {hh k : Nat} {T : Addr} (h : k ≠ hh) : upd g hh T k = g k := if_neg h
theorem hl_upd {g : Nat → Addr} {hh : Nat} {T : Addr} {ks : List Nat} (h : hh ∉ ks) : hl (upd g hh T) ks = hl g ks :=
  List.map_congr_left fun k hk => by rw [upd_ne (fun e => h (e ▸ hk) : k ≠ hh)]
theorem push_use (w : World) (l : Addr) (ks : List Nat) (g : Nat → Addr) (n hh : Nat) (T : Addr) (pool : Led) (hg : ∀ k ∈ ks, KeyAt pool (.ref (g k)) k) (hk : KeyAt pool (.ref T) hh) (hlen : ks.length ≤ 40) (hpl : ∀ p ∈ pool, p.1 ≠ l) (hnk : hh ∉ ks) :
    Ctr w 193 [.ref l, .ref T] [] 5 60 ((l, W.listOf (hl g ks).toArray n) :: pool) (HeapNow l pool (upd g hh T) (sdGo hh (ks.length + 1) (ks ++ [hh]) ks.length)) := by
  have S := push_spec w l ks (upd g hh T) n hh pool (fun k hk => by rw [upd_ne (fun e => hnk (e ▸ hk) : k ≠ hh)]; exact hg k hk) (by rw [upd_same]; exact hk) hlen hpl hnk
  rw [hl_upd hnk, upd_same] at S
  exact S
theorem pop_use (w : World) (l : Addr) (ks : List Nat) (g : Nat → Addr) (n top : Nat) (pool : Led) (hg : ∀ k ∈ ks, KeyAt pool (.ref (g k)) k) (hlen : ks.length ≤ 40) (hpl : ∀ p ∈ pool, p.1 ≠ l) (hnd : ks.Nodup) (htop : ks.head? = some top) :
    Ctr w 200 [.ref l] [] 7 80 ((l, W.listOf (hl g ks).toArray n) :: pool) (HeapPop l pool g (popStep ks) top) := by
  match ks, htop with
  | [a], e =>
    have e2 : a = top := Option.some.inj e
    subst e2
    exact pop1_spec w l g n a pool hpl
  | a :: b :: r, e =>
    have e2 : a = top := Option.some.inj e
    subst e2
    have q : b :: r = (b :: r).dropLast ++ [(b :: r).getLast (List.cons_ne_nil _ _)] := (List.dropLast_concat_getLast _).symm
    have S := pop_spec w l (b :: r).dropLast g n a ((b :: r).getLast (List.cons_ne_nil _ _)) pool (by rw [List.cons_append, ← q]; exact hg) (by rw [List.length_dropLast]; simp only [List.length_cons] at hlen ⊢; omega) hpl (by rw [List.cons_append, ← q]; exact hnd)
    rw [List.cons_append, ← q] at S
    exact S
theorem off_all {h₀ h : Heap} {L : Addr} {led add2 add pool : Led} {a d : Addr} {o : Obj} (N : News h₀ L h led) (h1 : (a, o) ∈ led) (hc : o.cls ≠ .type "tuple") (hs2 : ∀ p ∈ add2, p ∈ led) (hs1 : ∀ p ∈ add, p ∈ led) (t2 : AllTup add2) (t1 : AllTup add) (hpl : ∀ p ∈ pool, @LT.lt Nat _ p.1 d) (hda : @LT.lt Nat _ d a) : ∀ p ∈ add2 ++ (add ++ pool), @Ne Nat p.1 a := by
  intro p hp
  rcases List.mem_append.mp hp with hp | hp
  · exact off_tup N h1 hs2 t2 hc p hp
  · rcases List.mem_append.mp hp with hp | hp
    · exact off_tup N h1 hs1 t1 hc p hp
    · exact Nat.ne_of_lt (Nat.lt_trans (hpl p hp) hda)
theorem item_last {prog : Program} {w : World} {A : Around} {E : Value → Shared → Prop} {s : Shared} {h₀ : Heap} {L l : Addr} {news : Led} {value slice : Expr} {vs : List Value} {v : Value} {n : Nat} {u : Tok} {Q : Value → Shared → Prop} (N : News h₀ L s.heap news) (hm : (l, W.listOf (vs ++ [v]).toArray n) ∈ news) (hlen : vs.length ≤ 50) (h : Q v s)
    (hs : subscripted slice false (.ref l) (.int (-1) u) = operate [.ref l, .int (-1) u] (getItem (.ref l) (.int (-1) u)) := by with_unfolding_all rfl) :
    wpAny (model prog w) A (subscriptTail value slice (.ref l) (.int (-1) u)) Q E s := by
  have hl : s.heap.IsList l (vs ++ [v]).toArray := PySem.IsL.isList (n := n) (N _ hm).1
  refine tail_any hl.typeIs slot_list_getitem.lookup (wpAny_getItem_list_neg hl (by decide) (by simp; omega) (by decide) ?_ h) hs
  have e : ((-1 : Int) + ((vs ++ [v]).toArray.size : Int)).toNat = vs.length := by simp; omega
  rw [e]
  simp
theorem pair_restrict {led S : Led} (h : ∀ a o, (a, o) ∈ led → o.cls = .type "tuple" → (a, o) ∈ S) {v : Value} {q : Str × Str} (d : DatIn led v (pairD q)) : DatIn S v (pairD q) := by
  obtain ⟨T, x, y, n, rfl, hm, h1, h2⟩ := in_two9 d
  obtain ⟨t1, rfl⟩ := in_str9 h1
  obtain ⟨t2, rfl⟩ := in_str9 h2
  exact DatIn.tuple (vs := [_, _]) (h _ _ hm rfl) (.cons (.str _ _) (.cons (.str _ _) .nil))
theorem dat_restrict {led S : Led} (h : ∀ a o, (a, o) ∈ led → o.cls = .type "tuple" → (a, o) ∈ S) : ∀ {qs : List (Str × Str)} {vs : List Value}, DatAll led vs (qs.map pairD) → DatAll S vs (qs.map pairD)
  | [], vs, hd => by obtain rfl := all_nil9 hd; exact .nil
  | q :: qs, vs, hd => by
    obtain ⟨v, ws, rfl, h1, h2⟩ := all_cons9 hd
    exact .cons (pair_restrict h h1) (dat_restrict h h2)
theorem name_lower : ∀ nm ∈ menu, Plain (Txt.lower nm) ∧ (Txt.lower nm).length ≤ 10 := by decide +kernel
theorem tabN_len (f : Nat → Str × Str) : ∀ i, (tabN f i).length ≤ i
  | 0 => Nat.le_refl _
  | i + 1 => by
    rw [tabN, List.length_append]
    have h1 : (stayed (f i).1 (tabN f i)).length ≤ (tabN f i).length := List.length_filter_le _ _
    have h2 := tabN_len f i
    simp only [List.length_cons, List.length_nil]
    omega
theorem tabN_mem (f : Nat → Str × Str) : ∀ i q, q ∈ tabN f i → ∃ k, k < i ∧ q = f k
  | 0, q, h => nomatch h
  | i + 1, q, h => by
    rw [tabN] at h
    rcases List.mem_append.mp h with h | h
    · obtain ⟨k, hk, e⟩ := tabN_mem f i q ((List.mem_filter.mp h).1)
      exact ⟨k, by omega, e⟩
    · exact ⟨i, by omega, List.mem_singleton.mp h⟩
theorem by_item {hs : List Nat} {qs : List (Str × Str)} (h : heapOk hs = true) (hnd : hs.Nodup) (hsl : hs.length = qs.length) {k : Nat} (hk : k < hs.length) : ∃ (j : Nat) (q : Str × Str), j < hs.length ∧ qs[j]? = some q ∧ hs[j]? = some k ∧ byHour hs qs k = (q.1, row10 q) := by
  obtain ⟨p1, p2, p3, p4⟩ := pop_facts h hk
  have hi9 : k ∈ hs := p3 k (by cases hk9 : popN (pushN hs hs.length) k with
    | nil => rw [hk9] at p1; cases p1
    | cons a r => rw [hk9] at p1; cases p1; exact .head _)
  have hj := List.idxOf_lt_length_iff.mpr hi9
  refine ⟨hs.idxOf k, qs[hs.idxOf k]'(by omega), hj, List.getElem?_eq_getElem _, ?_, ?_⟩
  · rw [List.getElem?_eq_getElem hj, List.getElem_idxOf]
  · unfold byHour
    rw [List.getD_eq_getElem?_getD, List.getElem?_eq_getElem (by omega)]
    rfl
theorem item_t3 {prog : Program} {w : World} {A : Around} {E : Value → Shared → Prop} {s : Shared} {h₀ : Heap} {L a : Addr} {news : Led} {value slice : Expr} {v0 v1 v2 : Value} {n : Nat} {k : Int} {u : Tok} {j : Nat} {x : Value} {Q : Value → Shared → Prop} (N : News h₀ L s.heap news) (hm : (a, ({ cls := .type "tuple", data := .seq #[v0, v1, v2] n } : Obj)) ∈ news)
    (hk : k = (j : Int)) (hx : [v0, v1, v2][j]? = some x) (h : Q x s) (hs : subscripted slice false (.ref a) (.int k u) = operate [.ref a, .int k u] (getItem (.ref a) (.int k u)) := by with_unfolding_all rfl) :
    wpAny (model prog w) A (subscriptTail value slice (.ref a) (.int k u)) Q E s := by
  have hj : j < 3 := (List.getElem?_eq_some_iff.mp hx).1
  exact item_tupleT (l := [v0, v1, v2]) ⟨_, (N _ hm).1, rfl, n, rfl⟩ (by omega) (by omega) (by rw [seqIndex_of (by omega) (by simp; omega), hk]; rfl) hx h hs
local macro_rules | `(tactic| walk_at "subscriptTail") => `(tactic| k_extra "mv30")
local macro_rules | `(tactic| walk_at "subscriptTail") => `(tactic| k_extra "mv31")
local macro_rules | `(tactic| walk_at "subscriptTail") => `(tactic| k_extra "mv32")
theorem keyed_step {add : Led} {g : Nat → Addr} {hs : List Nat} {qs : List (Str × Str)} {i hh : Nat} {q : Str × Str} {T : Addr} {a b c : Tok} (hk : Keyed add g hs qs i) (hnd : hs.Nodup) (hhi : hs[i]? = some hh) (hqi : qs[i]? = some q) :
    Keyed ((T, keyObj hh q.1 (row10 q) a b c) :: add) (upd g hh T) hs qs (i + 1) := by
  intro j h q' hj hh' hq'
  by_cases e : j = i
  · subst e
    rw [hhi] at hh'
    rw [hqi] at hq'
    cases hh'
    cases hq'
    rw [upd_same]
    exact ⟨a, b, c, .head _⟩
  · obtain ⟨t1, t2, t3, hm⟩ := hk j h q' (by omega) hh' hq'
    have hne : h ≠ hh := fun e2 => e (by
      subst e2
      exact (List.getElem?_inj (List.getElem?_eq_some_iff.mp hh').1 hnd).mp (hh'.trans hhi.symm))
    rw [upd_ne hne]
    exact ⟨t1, t2, t3, .tail _ hm⟩
theorem keyed_at {add : Led} {g : Nat → Addr} {hs : List Nat} {qs : List (Str × Str)} {i k : Nat} (hk : Keyed add g hs qs i) (hsl : hs.length = qs.length) (hm : k ∈ hs.take i) : KeyAt add (.ref (g k)) k := by
  obtain ⟨j, hj, hjk⟩ := List.mem_iff_getElem.mp hm
  rw [List.length_take] at hj
  rw [List.getElem_take] at hjk
  obtain ⟨t1, t2, t3, hm⟩ := hk j k (qs[j]'(by omega)) (by omega) (by rw [List.getElem?_eq_getElem (by omega), hjk]) (List.getElem?_eq_getElem _)
  exact ⟨g k, t1, _, _, rfl, hm⟩
noncomputable def popD (f : Nat → Str × Str) (h : Nat) : Dat := .tuple [.int (h : Int), .str (f h).1, .str (f h).2]
noncomputable def Tabled (w : World) (cells : Led) (f : Nat → Str × Str) (n : Nat) (news' : Led) (v : Value) : Prop :=
  ∃ D lT xT dT tT vsT nT lQ ys nQ, v = .ref D ∧ Apart3 lT xT dT ∧ DatAll news' vsT ((tabN f n).map pairD) ∧ DatAll news' ys ((List.range n).map (popD f)) ∧
    ∀ p ∈ (D, ({ cls := .type "tuple", data := .seq #[.ref xT, .ref lQ] } : Obj)) :: (lQ, W.listOf (List.toArray ys) nQ) :: (hdr w lT xT dT tT vsT nT ++ cells), p ∈ news'
theorem DatAll.ofMap {led : Led} {a : Nat → Value} {d : Nat → Dat} : ∀ (l : List Nat), (∀ k ∈ l, DatIn led (a k) (d k)) → DatAll led (l.map a) (l.map d)
  | [], _ => .nil
  | k :: l, h => .cons (h k (.head _)) (DatAll.ofMap l fun j hj => h j (.tail _ hj))
theorem popped_dat {add : Led} {g : Nat → Addr} {hs : List Nat} {qs : List (Str × Str)} (hkey : Keyed add g hs qs hs.length) (hok : heapOk hs = true) (hnd : hs.Nodup) (hsl : hs.length = qs.length) (n : Nat) (hn : n ≤ hs.length) :
    DatAll add (hl g (List.range n)) ((List.range n).map (popD (byHour hs qs))) := by
  refine DatAll.ofMap _ fun k hk => ?_
  have hk2 := List.mem_range.mp hk
  obtain ⟨j, q', hj, hq', hji, hby⟩ := by_item hok hnd hsl (show k < hs.length by omega)
  obtain ⟨t1, t2, t3, hkm⟩ := hkey j k q' hj hji hq'
  unfold popD
  rw [hby]
  exact DatIn.tuple (vs := [_, _, _]) hkm (.cons (.int _ _) (.cons (.str _ _) (.cons (.str _ _) .nil)))
namespace E_table_spec
noncomputable def epsP (q : (World × Addr × Addr × Addr × Tok × (List Value) × Nat × (List (Str × Str)) × (List Nat) × Led) × Cx) : Prop := (fun (w : World) (x : Addr) (dx : Addr) (l : Addr) (t : Tok) (vs : List Value) (n : Nat) (qs : List (Str × Str)) (hs : List Nat) (pool : Led) (cx9 : Cx) => ∀ (hd : DatAll pool vs (qs.map pairD)) (hne : Apart3 l x dx) (hsl : hs.length = qs.length) (hlen : qs.length ≤ 20) (hnd : hs.Nodup) (hok : heapOk hs = true) (hq : ∀ (i : Nat) q h, qs[i]? = some q → hs[i]? = some h → LogItem q h), CtrFAt w 324 [.ref x] [] 12 200 (hdr w l x dx t vs n ++ pool) (Tabled w (hdr w l x dx t vs n ++ pool) (byHour hs qs) qs.length)  cx9) q.1.1 q.1.2.1 q.1.2.2.1 q.1.2.2.2.1 q.1.2.2.2.2.1 q.1.2.2.2.2.2.1 q.1.2.2.2.2.2.2.1 q.1.2.2.2.2.2.2.2.1 q.1.2.2.2.2.2.2.2.2.1 q.1.2.2.2.2.2.2.2.2.2 q.2
theorem epsN : Nonempty ((World × Addr × Addr × Addr × Tok × (List Value) × Nat × (List (Str × Str)) × (List Nat) × Led) × Cx) := ⟨((Classical.choice neWorld, default, default, default, default, default, default, default, default, default), Classical.choice neCx)⟩
@[irreducible] noncomputable def epsC : (World × Addr × Addr × Addr × Tok × (List Value) × Nat × (List (Str × Str)) × (List Nat) × Led) × Cx := worst epsN epsP
@[irreducible] noncomputable def w : World := epsC.1.1
@[irreducible] noncomputable def x : Addr := epsC.1.2.1
@[irreducible] noncomputable def dx : Addr := epsC.1.2.2.1
@[irreducible] noncomputable def l : Addr := epsC.1.2.2.2.1
@[irreducible] noncomputable def t : Tok := epsC.1.2.2.2.2.1
@[irreducible] noncomputable def vs : List Value := epsC.1.2.2.2.2.2.1
@[irreducible] noncomputable def n : Nat := epsC.1.2.2.2.2.2.2.1
@[irreducible] noncomputable def qs : List (Str × Str) := epsC.1.2.2.2.2.2.2.2.1
@[irreducible] noncomputable def hs : List Nat := epsC.1.2.2.2.2.2.2.2.2.1
@[irreducible] noncomputable def pool : Led := epsC.1.2.2.2.2.2.2.2.2.2
noncomputable def ent : (TT9 : Heap → Addr → Heap → Prop) ×' (∀ (hd : DatAll pool vs (qs.map pairD)) (hne : Apart3 l x dx) (hsl : hs.length = qs.length) (hlen : qs.length ≤ 20) (hnd : hs.Nodup) (hok : heapOk hs = true) (hq : ∀ (i : Nat) q h, qs[i]? = some q → hs[i]? = some h → LogItem q h), Hid (∀ x0 x1 x2, TT9 x0 x1 x2) → CtrFAt w 324 [.ref x] [] 12 200 (hdr w l x dx t vs n ++ pool) (Tabled w (hdr w l x dx t vs n ++ pool) (byHour hs qs) qs.length)  epsC.2) :=
  ⟨_, fun hd hne hsl hlen hnd hok hq H => by
    unfold hdr
    simp only [List.cons_append, List.nil_append]
    intro cxB cxF cxX cxN cxT cxk cxd cxu cxr
    ((refine wpAny_call ?_; k_dflt (refine' code_defG ?z33k1 ?z33k2 ?z33k3 ?z33k4 ?z33k5 ?z33kA ?z33kF ?z33kK ?z33k6 ?z33k7 ?z33k8 ?z33k9 ?z33kB ?_ ?z33c2 ?z33c3 ?z33c4 ?z33c5; (case z33kA => exact rfl); (case z33kF => exact rfl); (case z33kK => assumption); (case z33k1 => k_asm); (case z33k2 => k_asm); (case z33k3 => k_asm); (case z33k4 => k_asm); (case z33k5 => k_asm); (case z33k6 => k_is); (case z33k7 => k_is); (case z33k8 => ktr_room); (case z33k9 => first | exact BindsTo.of_eq rfl | exact binds_K (by k_in) rfl (by k_is) rfl rfl rfl | fail "mine enter: no rule for these arguments"); (case z33c5 => decide); (case z33kB => exact locs rfl); (case z33c2 => exact rfl); (case z33c3 => exact rfl); (case z33c4 => exact rfl); k_whole)))
    exact H.out⟩
theorem entN : Nonempty (Heap × Addr × Heap) := ⟨(default, 0, default)⟩
noncomputable def entP (q : Heap × Addr × Heap) : Prop := ent.1 q.1 q.2.1 q.2.2
@[irreducible] noncomputable def entC : Heap × Addr × Heap := worst entN entP
@[irreducible] noncomputable def gE : Heap := entC.1
@[irreducible] noncomputable def LE : Addr := entC.2.1
@[irreducible] noncomputable def hE : Heap := entC.2.2
theorem walk (hd : DatAll pool vs (qs.map pairD)) (hne : Apart3 l x dx) (hsl : hs.length = qs.length) (hlen : qs.length ≤ 20) (hnd : hs.Nodup) (hok : heapOk hs = true) (hq : ∀ (i : Nat) q h, qs[i]? = some q → hs[i]? = some h → LogItem q h) : CtrFTo w 324 [.ref x] [] 12 200 (hdr w l x dx t vs n ++ pool) (Tabled w (hdr w l x dx t vs n ++ pool) (byHour hs qs) qs.length)  epsC.2 (ent.1 gE LE hE) := by
  unfold hdr
  simp only [List.cons_append, List.nil_append]
  (intro cxB cxF cxX cxN cxT cxk cxd cxu cxr); walk_at "mine pure1"
  obtain ⟨hne1, hne2, hne3⟩ := hne
  have hvl : vs.length = qs.length := by rw [hd.length, List.length_map]
  k_steps
  rename_i xT dT lT tT _ _ _ _ _ lH _ _ lQ _ _ D0 _ _ _ _ _ _ _ _ _ _
  have hpl : ∀ p ∈ pool, @LT.lt Nat _ p.1 dT := AllLt.all (by assumption : _ ∧ _ ∧ _ ∧ AllLt dT pool).2.2.2
  unfold Paused
  refine For_turns (by assumption) ?_
  k_steps
  unfold Paused
  refine use_items (n := n) (t := t) (vs := vs) (by omega) ⟨hne1, hne2, hne3⟩ (by k_asm) (by k_asm) (by k_asm) (by assumption) (by k_asm) (by first | assumption | exact rfl) (by ktr_room) (by ktr_units) (List.forall_mem_cons.mpr ⟨by k_mem, List.forall_mem_cons.mpr ⟨by k_mem, List.forall_mem_cons.mpr ⟨by k_mem, List.forall_mem_nil _⟩⟩⟩) ?_
  intro D1 m1 h7 tk7 F7 N7 off7
  dsimp only
  refine iter_listTurns (by exact rfl) (by assumption) (by assumption) (by k_mem) rfl rfl (fun I hI => ?_)
  refine items_st2 [Str.ofString "name", Str.ofString "value"] (fun i _ news => ∃ g nH add, news = _ :: _ :: _ :: (lH, W.listOf (hl g (pushN hs i)).toArray nH) :: _ :: _ :: _ :: _ :: _ :: _ :: (add ++ pool) ∧ AllTup add ∧ Keyed add g hs qs i) ?step ?done ⟨fun _ => 0, _, [], rfl, List.forall_mem_nil _, fun j h q hj => absurd hj (Nat.not_lt_zero _)⟩
  case step =>
    rintro i a9 u news ha ⟨g, nH, add, rfl, htup, hkey⟩ v9 h9 tk9 hv9 F9
    refine AllObj.cons (fun o9 c9 => AllObj.nil (fun N9 => ?_))
    rw [List.getElem?_map] at ha
    obtain ⟨v, hv, rfl⟩ := Option.map_eq_some_iff.mp ha
    cases hv9
    obtain ⟨q, Tq, u1, u2, n9, hqi, rfl, hm⟩ := pair_at hd hv
    have hi2 : i < qs.length := (List.getElem?_eq_some_iff.mp hqi).1
    obtain ⟨hh, hhi⟩ : ∃ hh, hs[i]? = some hh := ⟨_, List.getElem?_eq_getElem (by omega)⟩
    obtain ⟨q1, q2, q3, q4⟩ := hq i q hh hqi hhi
    have N8 := News.more N9 (p := (Tq, _)) (List.mem_append_right _ (List.mem_cons_of_mem _ (List.mem_cons_of_mem _ (List.mem_cons_of_mem _ (List.mem_cons_of_mem _ (List.mem_cons_of_mem _ (List.mem_cons_of_mem _ (List.mem_cons_of_mem _ (List.mem_cons_of_mem _ (List.mem_cons_of_mem _ (List.mem_cons_of_mem _ (List.mem_append_right _ hm))))))))))))
    clear N9
    dsimp only [List.cons_append, List.nil_append] at N8
    have hI2 := hI
    k_lt hI2
    k_steps
    unfold Paused
    refine KIN.call_text q3 (by have := Txt.slice_le q.2 (some 16) (some 18); omega) ?_
    dsimp only
    k_steps
    rename_i tk1 _ _ ts _ _ T _ _ _ _
    unfold Paused
    obtain ⟨pl1, pl2⟩ := push_facts hok (Nat.le_of_lt (show i < hs.length by omega))
    have hx8 : hs.getD i 0 = hh := by rw [List.getD_eq_getElem?_getD, hhi]; rfl
    have hnk : hh ∉ pushN hs i := fun e => by
      obtain ⟨j, hj, hjk⟩ := List.mem_iff_getElem.mp (pl2 hh e)
      rw [List.length_take] at hj
      rw [List.getElem_take] at hjk
      have := (List.getElem?_inj (show j < hs.length by omega) hnd).mp ((List.getElem?_eq_getElem _).trans (by rw [hjk, hhi]) : hs[j]? = hs[i]?)
      omega
    have N6 := (by assumption : News _ _ _ ((T, _) :: _))
    have offH := off_tup N6 (a := lH) (o := W.listOf (hl g (pushN hs i)).toArray nH) (by k_mem) (fun p hp => by simp only [List.mem_cons, List.mem_append, hp, or_true, true_or]) htup (list_cls _ _)
    have offD := off7 (lH, _) (by k_mem)
    refine use_led (push_use w lH (pushN hs i) g nH hh T ((I, o9) :: (D1, W.listOf (List.toArray vs) m1) :: (D0, { cls := .type "tuple", data := .seq #[.ref xT, .ref lH, .ref lQ] }) :: (lQ, W.listOf #[] 0) :: (lT, W.listOf #[] 0) :: (xT, instObj 182 dT) :: (dT, hDict w tT lT) :: (l, W.listOf (List.toArray vs) n) :: (x, instObj 182 dx) :: (dx, hDict w t l) :: (((T, keyObj hh q.1 (row10 q) tk1 u1 ts) :: add) ++ pool)) ?hg ?hk (by omega) ?hpl hnk) (by k_asm) (by k_asm) (by k_asm) (News.sub N6 ?hm1) (by k_asm) (by first | assumption | exact rfl) (by ktr_room) (by ktr_units) ?_
    case hm1 => exact List.forall_mem_cons.mpr ⟨by k_mem, List.forall_mem_cons.mpr ⟨by k_mem, List.forall_mem_cons.mpr ⟨by k_mem, List.forall_mem_cons.mpr ⟨by k_mem, List.forall_mem_cons.mpr ⟨by k_mem, List.forall_mem_cons.mpr ⟨by k_mem, List.forall_mem_cons.mpr ⟨by k_mem, List.forall_mem_cons.mpr ⟨by k_mem, List.forall_mem_cons.mpr ⟨by k_mem, List.forall_mem_cons.mpr ⟨by k_mem, List.forall_mem_cons.mpr ⟨by k_mem, List.forall_mem_cons.mpr ⟨by k_mem, fun p hp => by have hp2 : p ∈ add ++ pool := hp; simp only [List.cons_append, List.mem_cons, hp2, or_true]⟩⟩⟩⟩⟩⟩⟩⟩⟩⟩⟩⟩
    case hg => exact fun k hk => (keyed_at hkey hsl (pl2 k hk)).sub fun p hp => by simp only [List.mem_cons, List.mem_append, hp, or_true, true_or]
    case hk => exact ⟨T, tk1, [.str q.1 u1, .str (row10 q) ts], 0, rfl, by k_mem⟩
    case hpl => exact List.forall_mem_cons.mpr ⟨by k_ne, List.forall_mem_cons.mpr ⟨fun e => offD e.symm, List.forall_mem_cons.mpr ⟨by k_ne, List.forall_mem_cons.mpr ⟨by k_ne, List.forall_mem_cons.mpr ⟨by k_ne, List.forall_mem_cons.mpr ⟨by k_ne, List.forall_mem_cons.mpr ⟨by k_ne, List.forall_mem_cons.mpr ⟨by k_ne, List.forall_mem_cons.mpr ⟨by k_ne, List.forall_mem_cons.mpr ⟨by k_ne, List.forall_mem_cons.mpr ⟨by k_ne, fun p hp => (List.mem_append.mp (show p ∈ add ++ pool from hp)).elim (offH p) (fun q => neN (by have := hpl p q; omega))⟩⟩⟩⟩⟩⟩⟩⟩⟩⟩⟩
    rintro v5 h5 tk5 n5 F5 N5 ⟨rfl, m5, hs5⟩
    have N4 := News.sub N5 hs5
    clear N5 hs5
    rw [show sdGo hh ((pushN hs i).length + 1) (pushN hs i ++ [hh]) (pushN hs i).length = pushN hs (i + 1) from by rw [pushN, hx8]] at N4
    have htup2 : AllTup ((T, keyObj hh q.1 (row10 q) tk1 u1 ts) :: add) := List.forall_mem_cons.mpr ⟨rfl, htup⟩
    have offI := off_tup N4 (a := I) (o := o9) (by k_mem) (List.forall_mem_cons.mpr ⟨by k_mem, fun p hp => by simp only [List.mem_cons, List.mem_append, hp, or_true, true_or]⟩) htup2 (by rw [c9]; exact fun e => absurd (Value.type.inj e) (by show ¬ "list_iterator" = "tuple"; decide))
    dsimp only
    k_steps
    unfold Paused
    refine unr_end0 (by assumption) (by assumption) (by k_mem) (List.forall_mem_cons.mpr ⟨by k_mem, List.forall_mem_cons.mpr ⟨by k_mem, List.forall_mem_cons.mpr ⟨by k_mem, List.forall_mem_cons.mpr ⟨by k_mem, List.forall_mem_cons.mpr ⟨by k_mem, List.forall_mem_cons.mpr ⟨by k_mem, List.forall_mem_cons.mpr ⟨by k_mem, List.forall_mem_cons.mpr ⟨by k_mem, List.forall_mem_cons.mpr ⟨by k_mem, List.forall_mem_cons.mpr ⟨by k_mem, List.forall_mem_cons.mpr ⟨by k_mem, fun p hp => by have hp2 : p ∈ add ++ pool := hp; simp only [List.cons_append, List.mem_cons, hp2, or_true]⟩⟩⟩⟩⟩⟩⟩⟩⟩⟩⟩) ?off ⟨⟨by k_mem, trivial⟩, ?fr, upd g hh T, m5, (T, keyObj hh q.1 (row10 q) tk1 u1 ts) :: add, rfl, htup2, keyed_step hkey hnd hhi hqi⟩
    case off => exact List.forall_mem_cons.mpr ⟨by k_ne, List.forall_mem_cons.mpr ⟨by k_ne, List.forall_mem_cons.mpr ⟨by k_ne, List.forall_mem_cons.mpr ⟨by k_ne, List.forall_mem_cons.mpr ⟨by k_ne, List.forall_mem_cons.mpr ⟨by k_ne, List.forall_mem_cons.mpr ⟨by k_ne, List.forall_mem_cons.mpr ⟨by k_ne, List.forall_mem_cons.mpr ⟨by k_ne, List.forall_mem_cons.mpr ⟨by k_ne, fun p hp => (List.mem_append.mp (show p ∈ ((T, keyObj hh q.1 (row10 q) tk1 u1 ts) :: add) ++ pool from hp)).elim (offI p) (fun q => neN (by have := hpl p q; omega))⟩⟩⟩⟩⟩⟩⟩⟩⟩⟩
    case fr => intro y hy; walk_at "mine frame"
  case done =>
    rintro u news h9 tk9 ⟨g, nH, add, rfl, htup, hkey⟩ F9 N9
    rw [List.length_map, hvl, ← hsl] at hkey N9
    have d1 := off7 (lH, _) (by k_mem)
    have d2 := off7 (lQ, _) (by k_mem)
    have d3 := off7 (lT, _) (by k_mem)
    dsimp only at d1 d2 d3
    clear hI off7
    k_steps
    unfold Paused
    refine For_turns (by assumption) ?_
    k_steps
    unfold Paused
    refine use_items (n := n) (t := t) (vs := vs) (by omega) ⟨hne1, hne2, hne3⟩ (by k_asm) (by k_asm) (by k_asm) (by assumption) (by k_asm) (by first | assumption | exact rfl) (by ktr_room) (by ktr_units) (List.forall_mem_cons.mpr ⟨by k_mem, List.forall_mem_cons.mpr ⟨by k_mem, List.forall_mem_cons.mpr ⟨by k_mem, List.forall_mem_nil _⟩⟩⟩) ?_
    intro D2 m2 h7 tk7 F7 N7 off8
    dsimp only
    clear I
    refine iter_listTurns (by exact rfl) (by assumption) (by assumption) (by k_mem) rfl rfl (fun I hI => ?_)
    refine items_st2 [Str.ofString "name", Str.ofString "value"] (fun i _ news => ∃ nH nQ vsT nT add2, news = _ :: _ :: _ :: (lQ, W.listOf (hl g (List.range i)).toArray nQ) :: (lH, W.listOf (hl g (popN (pushN hs hs.length) i)).toArray nH) :: (lT, W.listOf (List.toArray vsT) nT) :: _ :: _ :: _ :: _ :: _ :: (add2 ++ (add ++ pool)) ∧ AllTup add2 ∧ DatAll ((D0, { cls := .type "tuple", data := .seq #[.ref xT, .ref lH, .ref lQ] }) :: (add2 ++ (add ++ pool))) vsT ((tabN (byHour hs qs) i).map pairD)) ?step2 ?done2 ⟨_, _, [], _, [], rfl, List.forall_mem_nil _, .nil⟩
    case step2 =>
      rintro i a9 u news ha ⟨nH, nQ, vsT, nT, add2, rfl, htup2, hT⟩ v9 h9 tk9 hv9 F9
      refine AllObj.cons (fun o9 c9 => AllObj.nil (fun N9 => ?_))
      rw [List.getElem?_map] at ha
      obtain ⟨v, hv, rfl⟩ := Option.map_eq_some_iff.mp ha
      cases hv9
      obtain ⟨q, Tq, u1, u2, n9, hqi, rfl, hm⟩ := pair_at hd hv
      have hi2 : i < qs.length := (List.getElem?_eq_some_iff.mp hqi).1
      have N8 := News.more N9 (p := (Tq, _)) (List.mem_append_right _ (List.mem_cons_of_mem _ (List.mem_cons_of_mem _ (List.mem_cons_of_mem _ (List.mem_cons_of_mem _ (List.mem_cons_of_mem _ (List.mem_cons_of_mem _ (List.mem_cons_of_mem _ (List.mem_cons_of_mem _ (List.mem_cons_of_mem _ (List.mem_cons_of_mem _ (List.mem_cons_of_mem _ (List.mem_append_right _ (List.mem_append_right _ hm))))))))))))))
      clear N9
      dsimp only [List.cons_append, List.nil_append] at N8
      have hI2 := hI
      k_lt hI2
      k_steps
      unfold Paused
      obtain ⟨pp1, pp2, pp3, pp4⟩ := pop_facts hok (show i < hs.length by omega)
      have N6 := (by assumption : News _ _ _ ((Tq, _) :: _))
      have offH := off_all N6 (a := lH) (o := W.listOf (hl g (popN (pushN hs hs.length) i)).toArray nH) (by k_mem) (list_cls _ _) (fun p hp => by simp only [List.mem_cons, List.mem_append, hp, or_true, true_or]) (fun p hp => by simp only [List.mem_cons, List.mem_append, hp, or_true, true_or]) htup2 htup hpl (by omega)
      have offQ := off_all N6 (a := lQ) (o := W.listOf (hl g (List.range i)).toArray nQ) (by k_mem) (list_cls _ _) (fun p hp => by simp only [List.mem_cons, List.mem_append, hp, or_true, true_or]) (fun p hp => by simp only [List.mem_cons, List.mem_append, hp, or_true, true_or]) htup2 htup hpl (by omega)
      have offT := off_all N6 (a := lT) (o := W.listOf (List.toArray vsT) nT) (by k_mem) (list_cls _ _) (fun p hp => by simp only [List.mem_cons, List.mem_append, hp, or_true, true_or]) (fun p hp => by simp only [List.mem_cons, List.mem_append, hp, or_true, true_or]) htup2 htup hpl (by omega)
      have o1 := off8 (lH, _) (by k_mem)
      have o2 := off8 (lQ, _) (by k_mem)
      have o3 := off8 (lT, _) (by k_mem)
      dsimp only at o1 o2 o3
      refine use_led (pop_use w lH (popN (pushN hs hs.length) i) g nH i ((I, o9) :: (D2, W.listOf (List.toArray vs) m2) :: (D1, W.listOf (List.toArray vs) m1) :: (D0, { cls := .type "tuple", data := .seq #[.ref xT, .ref lH, .ref lQ] }) :: (lQ, W.listOf (hl g (List.range i)).toArray nQ) :: (lT, W.listOf (List.toArray vsT) nT) :: (xT, instObj 182 dT) :: (dT, hDict w tT lT) :: (l, W.listOf (List.toArray vs) n) :: (x, instObj 182 dx) :: (dx, hDict w t l) :: (add2 ++ (add ++ pool))) ?hg (by omega) ?hpl pp2 pp1) (by k_asm) (by k_asm) (by k_asm) (News.sub N6 ?hm1) (by k_asm) (by first | assumption | exact rfl) (by ktr_room) (by ktr_units) ?_
      case hm1 => exact List.forall_mem_cons.mpr ⟨by k_mem, List.forall_mem_cons.mpr ⟨by k_mem, List.forall_mem_cons.mpr ⟨by k_mem, List.forall_mem_cons.mpr ⟨by k_mem, List.forall_mem_cons.mpr ⟨by k_mem, List.forall_mem_cons.mpr ⟨by k_mem, List.forall_mem_cons.mpr ⟨by k_mem, List.forall_mem_cons.mpr ⟨by k_mem, List.forall_mem_cons.mpr ⟨by k_mem, List.forall_mem_cons.mpr ⟨by k_mem, List.forall_mem_cons.mpr ⟨by k_mem, List.forall_mem_cons.mpr ⟨by k_mem, fun p hp => by have hp2 : p ∈ add2 ++ (add ++ pool) := hp; simp only [List.cons_append, List.mem_cons, hp2, or_true]⟩⟩⟩⟩⟩⟩⟩⟩⟩⟩⟩⟩
      case hg => exact fun k hk => (keyed_at hkey hsl (by rw [List.take_length]; exact pp3 k hk)).sub fun p hp => by simp only [List.mem_cons, List.mem_append, hp, or_true, true_or]
      case hpl => exact List.forall_mem_cons.mpr ⟨by k_ne, List.forall_mem_cons.mpr ⟨by k_ne, List.forall_mem_cons.mpr ⟨by k_ne, List.forall_mem_cons.mpr ⟨by k_ne, List.forall_mem_cons.mpr ⟨by k_ne, List.forall_mem_cons.mpr ⟨by k_ne, List.forall_mem_cons.mpr ⟨by k_ne, List.forall_mem_cons.mpr ⟨by k_ne, List.forall_mem_cons.mpr ⟨by k_ne, List.forall_mem_cons.mpr ⟨by k_ne, List.forall_mem_cons.mpr ⟨by k_ne, offH⟩⟩⟩⟩⟩⟩⟩⟩⟩⟩⟩
      rintro v5 h5 tk5 n5 F5 N5 ⟨rfl, m5, hs5⟩
      have N4 := News.sub N5 hs5
      clear N5 hs5
      rw [show popStep (popN (pushN hs hs.length) i) = popN (pushN hs hs.length) (i + 1) from rfl] at N4
      dsimp only
      k_steps
      unfold Paused
      refine' append_K (by assumption) (by assumption) ?U ?_ ?z
      case U => k_upd
      case z => rw [List.size_toArray, List.length_map, List.length_range, sizeLine_eq]; omega
      intro h3 F3 N3
      rw [show (hl g (List.range i)).toArray.push (Value.ref (g i)) = (hl g (List.range i) ++ [Value.ref (g i)]).toArray from by simp] at N3
      obtain ⟨j, q', hj, hq', hji, hby⟩ := by_item hok hnd hsl (show i < hs.length by omega)
      obtain ⟨t1, t2, t3, hkm⟩ := hkey j i q' hj hji hq'
      obtain ⟨r1, r2, r3, r4⟩ := hq j q' i hq' hji
      have N2 := News.more N3 (p := (g i, keyObj i q'.1 (row10 q') t1 t2 t3)) (by simp only [List.mem_cons, List.mem_append, hkm, or_true, true_or])
      clear N3
      k_steps
      unfold Paused
      have N1 := (by assumption : News _ _ _ ((g i, _) :: _))
      have tl1 := tabN_len (byHour hs qs) i
      have hTl : vsT.length ≤ 20 := by rw [hT.length, List.length_map]; omega
      refine use_led (set_spec w xT dT lT tT t2 t3 vsT nT q'.1 (row10 q') (tabN (byHour hs qs) i) ((I, o9) :: (D2, W.listOf (List.toArray vs) m2) :: (D1, W.listOf (List.toArray vs) m1) :: (D0, { cls := .type "tuple", data := .seq #[.ref xT, .ref lH, .ref lQ] }) :: (lQ, W.listOf (hl g (List.range i) ++ [Value.ref (g i)]).toArray (nQ + 1)) :: (lH, W.listOf (hl g (popN (pushN hs hs.length) (i + 1))).toArray m5) :: (l, W.listOf (List.toArray vs) n) :: (x, instObj 182 dx) :: (dx, hDict w t l) :: (add2 ++ (add ++ pool))) (hT.mono ?sub) (by omega) ⟨by k_ne, by k_ne, by k_ne⟩ ?hpl2 (name_lower _ r1).1 (name_lower _ r1).2 (name_plain _ r1).2 ?hql (name_plain _ r1).1 r4 (by have := Txt.slice_le q'.2 none (some 10); unfold row10; omega)) (by k_asm) (by k_asm) (by k_asm) (News.sub N1 ?hm2) (by k_asm) (by first | assumption | exact rfl) (by ktr_room) (by ktr_units) ?_
      case sub => exact List.forall_mem_cons.mpr ⟨by k_mem, fun p hp => by have hp2 : p ∈ add2 ++ (add ++ pool) := hp; simp only [List.cons_append, List.mem_cons, hp2, or_true]⟩
      case hpl2 => exact List.forall_mem_cons.mpr ⟨by k_ne, List.forall_mem_cons.mpr ⟨by k_ne, List.forall_mem_cons.mpr ⟨by k_ne, List.forall_mem_cons.mpr ⟨by k_ne, List.forall_mem_cons.mpr ⟨by k_ne, List.forall_mem_cons.mpr ⟨by k_ne, List.forall_mem_cons.mpr ⟨by k_ne, List.forall_mem_cons.mpr ⟨by k_ne, List.forall_mem_cons.mpr ⟨by k_ne, offT⟩⟩⟩⟩⟩⟩⟩⟩⟩
      case hql =>
        intro q9 hq9
        obtain ⟨k9, hk9, rfl⟩ := tabN_mem _ _ _ hq9
        obtain ⟨j9, q8, _, hq8, hj8, e8⟩ := by_item hok hnd hsl (show k9 < hs.length by omega)
        rw [e8]
        exact (name_plain _ (hq j9 q8 k9 hq8 hj8).1).2
      case hm2 => exact List.forall_mem_cons.mpr ⟨by k_mem, List.forall_mem_cons.mpr ⟨by k_mem, List.forall_mem_cons.mpr ⟨by k_mem, List.forall_mem_cons.mpr ⟨by k_mem, List.forall_mem_cons.mpr ⟨by k_mem, List.forall_mem_cons.mpr ⟨by k_mem, List.forall_mem_cons.mpr ⟨by k_mem, List.forall_mem_cons.mpr ⟨by k_mem, List.forall_mem_cons.mpr ⟨by k_mem, List.forall_mem_cons.mpr ⟨by k_mem, List.forall_mem_cons.mpr ⟨by k_mem, List.forall_mem_cons.mpr ⟨by k_mem, fun p hp => by have hp2 : p ∈ add2 ++ (add ++ pool) := hp; simp only [List.cons_append, List.mem_cons, hp2, or_true]⟩⟩⟩⟩⟩⟩⟩⟩⟩⟩⟩⟩
      rintro v1 h1 tk1 n1 F1 N0 ⟨rfl, vs', n', T, w1, w2, hT', hs1⟩
      have Nz := News.sub N0 hs1
      unfold addedLed at Nz
      clear N0 hs1 N1
      dsimp only
      k_steps
      unfold Paused
      have htup3 : AllTup ((T, ({ cls := .type "tuple", data := .seq [Value.str q'.1 w1, Value.str (row10 q') w2].toArray } : Obj)) :: add2) := List.forall_mem_cons.mpr ⟨rfl, htup2⟩
      have offI := off_all Nz (a := I) (o := o9) (add2 := (T, ({ cls := .type "tuple", data := .seq [Value.str q'.1 w1, Value.str (row10 q') w2].toArray } : Obj)) :: add2) (by k_mem) (by rw [c9]; exact fun e => absurd (Value.type.inj e) (by show ¬ "list_iterator" = "tuple"; decide)) (List.forall_mem_cons.mpr ⟨by k_mem, fun p hp => by simp only [List.mem_cons, List.mem_append, hp, or_true, true_or]⟩) (fun p hp => by simp only [List.mem_cons, List.mem_append, hp, or_true, true_or]) htup3 htup hpl (by omega)
      rw [show hl g (List.range i) ++ [Value.ref (g i)] = hl g (List.range (i + 1)) from by simp [List.range_succ]] at Nz
      refine unr_end0 (by assumption) Nz (by k_mem) (List.forall_mem_cons.mpr ⟨by k_mem, List.forall_mem_cons.mpr ⟨by k_mem, List.forall_mem_cons.mpr ⟨by k_mem, List.forall_mem_cons.mpr ⟨by k_mem, List.forall_mem_cons.mpr ⟨by k_mem, List.forall_mem_cons.mpr ⟨by k_mem, List.forall_mem_cons.mpr ⟨by k_mem, List.forall_mem_cons.mpr ⟨by k_mem, List.forall_mem_cons.mpr ⟨by k_mem, List.forall_mem_cons.mpr ⟨by k_mem, List.forall_mem_cons.mpr ⟨by k_mem, List.forall_mem_cons.mpr ⟨by k_mem, fun p hp => by have hp2 : p ∈ add2 ++ (add ++ pool) := hp; simp only [List.cons_append, List.mem_cons, hp2, or_true]⟩⟩⟩⟩⟩⟩⟩⟩⟩⟩⟩⟩) ?off ⟨⟨by k_mem, trivial⟩, ?fr, m5, nQ + 1, vs' ++ [.ref T], n', (T, ({ cls := .type "tuple", data := .seq [Value.str q'.1 w1, Value.str (row10 q') w2].toArray } : Obj)) :: add2, rfl, htup3, ?fin⟩
      case off => exact List.forall_mem_cons.mpr ⟨by k_ne, List.forall_mem_cons.mpr ⟨by k_ne, List.forall_mem_cons.mpr ⟨by k_ne, List.forall_mem_cons.mpr ⟨by k_ne, List.forall_mem_cons.mpr ⟨by k_ne, List.forall_mem_cons.mpr ⟨by k_ne, List.forall_mem_cons.mpr ⟨by k_ne, List.forall_mem_cons.mpr ⟨by k_ne, List.forall_mem_cons.mpr ⟨by k_ne, List.forall_mem_cons.mpr ⟨by k_ne, List.forall_mem_cons.mpr ⟨by k_ne, fun p hp => offI p (show p ∈ ((T, ({ cls := .type "tuple", data := .seq [Value.str q'.1 w1, Value.str (row10 q') w2].toArray } : Obj)) :: add2) ++ (add ++ pool) from hp)⟩⟩⟩⟩⟩⟩⟩⟩⟩⟩⟩
      case fr => intro y hy; walk_at "mine frame"
      case fin =>
        rw [tabN, hby, List.map_append]
        refine DatAll.append ((dat_restrict (S := (D0, { cls := .type "tuple", data := .seq #[.ref xT, .ref lH, .ref lQ] }) :: (add2 ++ (add ++ pool))) ?r1 hT').mono ?r2) (DatAll.one (DatIn.tuple (vs := [_, _]) (n := 0) (.tail _ (List.Mem.head _)) (.cons (.str _ _) (.cons (.str _ _) .nil))))
        case r2 => exact fun p hp => (List.mem_cons.mp hp).elim (fun e => e ▸ .head _) fun h => .tail _ (.tail _ h)
        case r1 =>
          intro a o ho hc
          rcases List.mem_cons.mp ho with e | ho
          · cases e; exact absurd (c9.symm.trans hc) (fun e => absurd (Value.type.inj e) (by show ¬ "list_iterator" = "tuple"; decide))
          rcases List.mem_cons.mp ho with e | ho
          · cases e; exact absurd hc (list_cls _ _)
          rcases List.mem_cons.mp ho with e | ho
          · cases e; exact absurd hc (list_cls _ _)
          rcases List.mem_cons.mp ho with e | ho
          · cases e; exact .head _
          rcases List.mem_cons.mp ho with e | ho
          · cases e; exact absurd hc (list_cls _ _)
          rcases List.mem_cons.mp ho with e | ho
          · cases e; exact absurd hc (list_cls _ _)
          rcases List.mem_cons.mp ho with e | ho
          · cases e; exact absurd hc (list_cls _ _)
          rcases List.mem_cons.mp ho with e | ho
          · cases e; exact nomatch (show Value.ref 182 = Value.type "tuple" from hc)
          rcases List.mem_cons.mp ho with e | ho
          · cases e; exact absurd (Value.type.inj (show Value.type "dict" = Value.type "tuple" from hc)) (by decide)
          exact .tail _ ho
    case done2 =>
      rintro u news h9 tk9 ⟨nH, nQ, vsT, nT, add2, rfl, htup2, hT⟩ F9 N9
      rw [List.length_map, hvl, ← hsl] at hT N9
      k_steps
      refine ⟨_, lT, xT, dT, tT, vsT, nT, lQ, hl g (List.range hs.length), nQ, rfl, ⟨by k_ne, by k_ne, by k_ne⟩, ?d1, ?d2, ?sb⟩
      case d1 => rw [← hsl]; exact hT.mono (List.forall_mem_cons.mpr ⟨by k_mem, fun p hp => by have hp2 : p ∈ add2 ++ (add ++ pool) := hp; simp only [List.mem_cons, hp2, or_true]⟩)
      case d2 => rw [← hsl]; exact (popped_dat hkey hok hnd hsl hs.length (Nat.le_refl _)).mono fun p hp => by simp only [List.mem_cons, List.mem_append, hp, or_true, true_or]
      case sb => (unfold hdr; simp only [List.cons_append, List.nil_append]); exact List.forall_mem_cons.mpr ⟨by k_mem, List.forall_mem_cons.mpr ⟨by k_mem, List.forall_mem_cons.mpr ⟨by k_mem, List.forall_mem_cons.mpr ⟨by k_mem, List.forall_mem_cons.mpr ⟨by k_mem, List.forall_mem_cons.mpr ⟨by k_mem, List.forall_mem_cons.mpr ⟨by k_mem, List.forall_mem_cons.mpr ⟨by k_mem, fun p hp => by have hp2 : p ∈ pool := hp; simp only [List.mem_cons, List.mem_append, hp2, or_true]⟩⟩⟩⟩⟩⟩⟩⟩
theorem walk2 (hd : DatAll pool vs (qs.map pairD)) (hne : Apart3 l x dx) (hsl : hs.length = qs.length) (hlen : qs.length ≤ 20) (hnd : hs.Nodup) (hok : heapOk hs = true) (hq : ∀ (i : Nat) q h, qs[i]? = some q → hs[i]? = some h → LogItem q h) : CtrFTo w 324 [.ref x] [] 12 200 (hdr w l x dx t vs n ++ pool) (Tabled w (hdr w l x dx t vs n ++ pool) (byHour hs qs) qs.length)  epsC.2 (entP entC) := by with_unfolding_all exact walk hd hne hsl hlen hnd hok hq
theorem fin : epsP epsC := by
  with_unfolding_all exact fun hd hne hsl hlen hnd hok hq cxB cxF cxX cxN cxT cxk cxd cxu cxr => ent.2 hd hne hsl hlen hnd hok hq ⟨fun x0 x1 x2 => of_worst (P := entP) (h := entN) (by with_unfolding_all exact walk2 hd hne hsl hlen hnd hok hq cxB cxF cxX cxN cxT cxk cxd cxu cxr) (x0, x1, x2)⟩ cxB cxF cxX cxN cxT cxk cxd cxu cxr
end E_table_spec
theorem table_spec (w : World) (x dx l : Addr) (t : Tok) (vs : List Value) (n : Nat) (qs : List (Str × Str)) (hs : List Nat) (pool : Led) (hd : DatAll pool vs (qs.map pairD)) (hne : Apart3 l x dx) (hsl : hs.length = qs.length) (hlen : qs.length ≤ 20) (hnd : hs.Nodup) (hok : heapOk hs = true) (hq : ∀ (i : Nat) q h, qs[i]? = some q → hs[i]? = some h → LogItem q h) : CtrF w 324 [.ref x] [] 12 200 (hdr w l x dx t vs n ++ pool) (Tabled w (hdr w l x dx t vs n ++ pool) (byHour hs qs) qs.length) := ctrF_of fun c9 => of_worst (P := E_table_spec.epsP) (h := E_table_spec.epsN) (by with_unfolding_all exact E_table_spec.fin) ((w, x, dx, l, t, vs, n, qs, hs, pool), c9) hd hne hsl hlen hnd hok hq
end
section
open PyProof.Rows.LCg
/-- names under a target, what each holds -/
inductive Bd (h : Heap) : Expr → Value → List (Str × Value) → Prop
  | name {x : Str} {px : Pos} {v : Value} : Bd h (.Name x px) v [(x, v)]
  | two {a b : Expr} {k : Nat} {pos : Pos} {T : Addr} {u v : Value} {bs cs : List (Str × Value)} : h.IsTuple T #[u, v] → Bd h a u bs → Bd h b v cs → Bd h (.Tuple [a, b] k pos) (.ref T) (bs ++ cs)
  | three {a b c : Expr} {k : Nat} {pos : Pos} {T : Addr} {u v x : Value} {bs cs ds : List (Str × Value)} : h.IsTuple T #[u, v, x] → Bd h a u bs → Bd h b v cs → Bd h c x ds → Bd h (.Tuple [a, b, c] k pos) (.ref T) (bs ++ (cs ++ ds))
noncomputable def put : List (Str × Value) → (Str → Option Value) → Str → Option Value
  | [], m => m
  | p :: r, m => put r fun y => if y = p.1 then some p.2 else m y
theorem put_append (bs cs : List (Str × Value)) (m : Str → Option Value) : put (bs ++ cs) m = put cs (put bs m) := by
  induction bs generalizing m with
  | nil => rfl
  | cons p r ih => exact ih _
theorem put_off {bs : List (Str × Value)} {m : Str → Option Value} {x : Str} (h : x ∉ bs.map (·.1)) : put bs m x = m x := by
  induction bs generalizing m with
  | nil => rfl
  | cons p r ih =>
    rw [List.map_cons, List.mem_cons, not_or] at h
    rw [put, ih h.2, if_neg h.1]
theorem put_at {bs : List (Str × Value)} {m : Str → Option Value} (hn : (bs.map (·.1)).Nodup) : ∀ p ∈ bs, put bs m p.1 = some p.2 := by
  induction bs generalizing m with
  | nil => exact fun _ h => nomatch h
  | cons q r ih =>
    rw [List.map_cons, List.nodup_cons] at hn
    intro p hp
    rcases List.mem_cons.mp hp with rfl | hp
    · rw [put, put_off hn.1, if_pos rfl]
    · exact ih hn.2 p hp
section
variable {prog : Program} {w : World} {A : Around} {E : Value → Shared → Prop}
theorem tuple_ne {h : Heap} {T C : Addr} {vals : Array Value} {m : Str → Option Value} (ht : h.IsTuple T vals) (hn : h.Ns C m) : T ≠ C := fun e => by
  obtain ⟨o, h1, _, n, h2⟩ := ht
  obtain ⟨o', es, ep, h3, h4, _⟩ := hn
  have e' : h.get? T = some o' := e ▸ h3
  rw [h1] at e'
  cases e'
  rw [h2] at h4
  cases h4
theorem assign_bd {h₁ : Heap} {env : Env} (hh : A.handled = none) (hp : (env.scope.kind == .class || (env.scope.kind == .module && env.locals != env.globals)) = false) : ∀ {target : Expr} {v : Value} {bs : List (Str × Value)}, Bd h₁ target v bs →
    ∀ {s : Shared} {m m₁ : Str → Option Value} {Q : Unit → Shared → Prop}, h₁.Ns env.locals m₁ → (∀ p ∈ bs, env.kindOf p.1 = some .local) → (∀ b o, b ≠ env.locals → h₁.get? b = some o → s.heap.get? b = some o) → s.heap.Ns env.locals m →
    (∀ h' tk, h'.Ns env.locals (put bs m) → (∀ c o, c ≠ env.locals → s.heap.get? c = some o → h'.get? c = some o) → Q () { s with heap := h', toks := tk }) → wpAny (model prog w) A (assign target env v) Q E s
  | _, _, _, .name, s, m, m₁, Q, _, hl, _, hn, h => wpAny_assign_Name (wpAny_storeName_local (hl _ List.mem_cons_self) hn (fun h' hn' hs' => h h' _ hn' fun c o hc e => hs'.extBut c o hc e) hp)
  | _, _, _, .two (a := a) (b := b) (bs := bs) (cs := cs) ht h1 h2, s, m, m₁, Q, hn₁, hl, hk, hn, h => by
    have na := h1
    have nb := h2
    have hT := tuple_ne ht hn₁
    have ht' : s.heap.IsTuple _ _ := ht.at fun o e => hk _ o hT e
    have ea : assignEach [a, b] env = [(false, assign a env), (false, assign b env)] := by cases na <;> cases nb <;> rfl
    refine wpAny_assign_Tuple hh ht' (by rw [ea]; rfl) (by rw [ea]; rfl) fun h₂ he₂ => ?_
    rw [ea]
    have up₂ : ∀ c o, s.heap.get? c = some o → h₂.get? c = some o := fun c o e => he₂ c o (Nat.ne_of_lt (Heap.lt_size e)) e
    refine assignInOrder_cons ?_
    refine assign_bd hh hp h1 (m := m) hn₁ (fun p hp => hl p (List.mem_append_left _ hp)) (fun c o hc e => up₂ c o (hk c o hc e)) (hn.at' fun o e => up₂ _ o e) fun h₃ tk₃ hn₃ hk₃ => ?_
    refine assignInOrder_cons ?_
    refine assign_bd hh hp h2 hn₁ (fun p hp => hl p (List.mem_append_right _ hp)) (fun c o hc e => hk₃ c o hc (up₂ c o (hk c o hc e))) hn₃ fun h₄ tk₄ hn₄ hk₄ => ?_
    refine assignInOrder_nil ?_
    exact h h₄ tk₄ (by rw [put_append]; exact hn₄) fun c o hc e => hk₄ c o hc (hk₃ c o hc (up₂ c o e))
  | _, _, _, .three (a := a) (b := b) (c := c) (bs := bs) (cs := cs) (ds := ds) ht h1 h2 h3, s, m, m₁, Q, hn₁, hl, hk, hn, h => by
    have na := h1
    have nb := h2
    have nc := h3
    have hT := tuple_ne ht hn₁
    have ht' : s.heap.IsTuple _ _ := ht.at fun o e => hk _ o hT e
    have ea : assignEach [a, b, c] env = [(false, assign a env), (false, assign b env), (false, assign c env)] := by cases na <;> cases nb <;> cases nc <;> rfl
    refine wpAny_assign_Tuple hh ht' (by rw [ea]; rfl) (by rw [ea]; rfl) fun h₂ he₂ => ?_
    rw [ea]
    have up₂ : ∀ c o, s.heap.get? c = some o → h₂.get? c = some o := fun c o e => he₂ c o (Nat.ne_of_lt (Heap.lt_size e)) e
    refine assignInOrder_cons ?_
    refine assign_bd hh hp h1 (m := m) hn₁ (fun p hp => hl p (List.mem_append_left _ hp)) (fun c o hc e => up₂ c o (hk c o hc e)) (hn.at' fun o e => up₂ _ o e) fun h₃ tk₃ hn₃ hk₃ => ?_
    refine assignInOrder_cons ?_
    refine assign_bd hh hp h2 hn₁ (fun p hp => hl p (List.mem_append_right _ (List.mem_append_left _ hp))) (fun c o hc e => hk₃ c o hc (up₂ c o (hk c o hc e))) hn₃ fun h₄ tk₄ hn₄ hk₄ => ?_
    refine assignInOrder_cons ?_
    refine assign_bd hh hp h3 hn₁ (fun p hp => hl p (List.mem_append_right _ (List.mem_append_right _ hp))) (fun c o hc e => hk₄ c o hc (hk₃ c o hc (up₂ c o (hk c o hc e)))) hn₄ fun h₅ tk₅ hn₅ hk₅ => ?_
    refine assignInOrder_nil ?_
    exact h h₅ tk₅ (by rw [put_append, put_append]; exact hn₅) fun c o hc e => hk₅ c o hc (hk₄ c o hc (hk₃ c o hc (up₂ c o e)))
end
/-- the test of a comprehension, if it has one -/
noncomputable def testThen (prog : Program) (w : World) (A : Around) (ct : Option Expr) (env : Env) (Q : Bool → Shared → Prop) (E : Value → Shared → Prop) (s : Shared) : Prop :=
  match ct with
  | none => Q true s
  | some c => wpAny (model prog w) A (isTrue c env (eval c env)) Q E s
section
variable {prog : Program} {w : World} {A : Around} {E : Value → Shared → Prop} {s : Shared}
theorem comp_loop {elt target iter : Expr} {ct : Option Expr} {scope : Scope} {pos : Pos} {it acc : Value} {env : Env} {R : Result → Shared → Prop} (I : Nat → Shared → Prop)
    (turn : ∀ n s, I n s → wpAny (model prog w) A (pyNext it) (fun r s₁ => match r with
      | none => R (.ok .next) s₁
      | some v => wpAny (model prog w) A (letOwnedTupleGo target it v) (fun _ s₀ => wpAny (model prog w) A (assign target env v) (fun _ s₂ =>
          testThen prog w A ct env (fun ok s₃ => if ok = true then wpAny (model prog w) A (eval elt env) (fun x s₄ =>
            wpAny (model prog w) A (call (.builtin "list.append") [acc, x]) (fun _ s₅ => ∃ m, m < n ∧ I m s₅) (notedBy (model prog w) A env fun e s' => R (.error e) s') s₄) (notedBy (model prog w) A env fun e s' => R (.error e) s') s₃
            else ∃ m, m < n ∧ I m s₃) (notedBy (model prog w) A env fun e s' => R (.error e) s') s₂)
          (notedBy (model prog w) A env fun e s' => R (.error e) s') s₀) (notedBy (model prog w) A env fun e s' => R (.error e) s') s₁) (notedBy (model prog w) A env fun e s' => R (.error e) s') s)
    (n : Nat) (h : I n s) : codeAny (model prog w) A (.compLoop (.ListComp elt [⟨target, iter, ct.toList, 0⟩] scope pos) 0 it acc env) R s := by
  cases ct with
  | none =>
    refine kcp_loop I (fun n s hI => wpAny_mono (turn n s hI) (fun r s₁ h₁ => ?_) fun _ _ e => e) n h
    cases r with
    | none => exact h₁
    | some v =>
      refine wpAny_mono h₁ (fun _ s₀ h₀ => wpAny_mono h₀ (fun _ s₂ h₂ => ?_) fun _ _ e => e) fun _ _ e => e
      simpa only [testThen, if_true] using h₂
  | some c => exact kct_loop I turn n h
end
/-- what is asked behind a turn's element: a few new objects, all else as it stood -/
noncomputable def CEnd (h₀ : Heap) (L : Addr) (m : Str → Option Value) (s₁ : Shared) (own fix add : Led) (rest : Value → Led → Prop) (y : Value) (s₂ : Shared) : Prop :=
  ∃ h' tk new, s₂ = { s₁ with heap := h', toks := tk } ∧ Fr h₀ L h' m ∧ News h₀ L h' (own ++ (fix ++ (new ++ add))) ∧ (∀ p ∈ new, ∀ q ∈ own, p.1 ≠ q.1) ∧ rest y (new ++ add)
noncomputable def CompTurns (prog : Program) (w : World) (A : Around) (h₀ : Heap) (L : Addr) (m : Str → Option Value) (env : Env) (ct : Option Expr) (elt : Expr) (scope : Scope) (cl : List (Str × Addr)) (s : Shared) (ws : List (Addr × String)) (names : List Str) (n : Nat) (fix add₀ : Led) (J : Nat → List Value → Led → Prop) (B : Nat → List Value → Prop) : Prop :=
  ∀ i ys add vals oC C D m₂ h tk (E' : Value → Shared → Prop), i < n → J i ys add → (∀ p ∈ add₀, p ∈ add) → B i vals → NsObj oC m₂ → (∀ p ∈ names.zip vals, m₂ p.1 = some p.2) → Fr h₀ L h m → AllObj ws (fun its => News h₀ L h ((C, oC) :: (D, lst ys) :: (its ++ (fix ++ add))) →
    (∀ p ∈ fix ++ add, ∀ q ∈ (C, oC) :: (D, lst ys) :: its, p.1 ≠ q.1) →
    testThen prog w A ct (compEnvC scope cl C env) (fun ok s' => if ok = true then
      wpAny (model prog w) A (eval elt (compEnvC scope cl C env)) (CEnd h₀ L m { s with heap := h, toks := tk } ((C, oC) :: (D, lst ys) :: its) fix add (fun y add' => J (i + 1) (ys ++ [y]) add')) E' s'
      else CEnd h₀ L m { s with heap := h, toks := tk } ((C, oC) :: (D, lst ys) :: its) fix add (fun _ add' => J (i + 1) ys add') Value.none s') E' { s with heap := h, toks := tk })
section
variable {prog : Program} {w : World} {A : Around} {E : Value → Shared → Prop} {h₀ : Heap} {L : Addr} {m : Str → Option Value} {env : Env}
end
namespace E_comp_block
noncomputable def epsP (q : Program × World × (Value → Shared → Prop) × Heap × Addr × (Str → Option Value) × Env × Expr × Expr × Expr × Scope × (List (Str × Addr)) × Pos × Shared × Addr × (List Addr) × (List Addr) × Nat × (Nat → Value → Heap → Prop) × (Nat → Value → Heap → Prop) × (Nat → Heap → Prop) × (List (Addr × String)) × (List Str) × Led × Led × (Nat → List Value → Led → Prop) × (Nat → List Value → Prop) × (Value → Addr → Result → Shared → Prop)) : Prop := (fun (prog : Program) (w : World) (E : Value → Shared → Prop) (h₀ : Heap) (L : Addr) (m : Str → Option Value) (env : Env) (target : Expr) (elt : Expr) (iter : Expr) (scope : Scope) (cl : List (Str × Addr)) (pos : Pos) (s₂ : Shared) (I : Addr) (fp : List Addr) (wr : List Addr) (n : Nat) (P : Nat → Value → Heap → Prop) (Md : Nat → Value → Heap → Prop) (St : Nat → Heap → Prop) (ws : List (Addr × String)) (names : List Str) (fix : Led) (add₀ : Led) (J : Nat → List Value → Led → Prop) (B : Nat → List Value → Prop) (RR : Value → Addr → Result → Shared → Prop) => ∀ (A : Around) (ct : Option Expr) (hh : A.handled = none) (W : KTurns prog w A target I fp wr n P Md St) (hself : ∀ (s : Shared) (Q : Value → Shared → Prop) (E : Value → Shared → Prop), St 0 s.heap → Q (.ref I) s → wpAny (model prog w) A (pyIter (.ref I)) Q E s) (hsz : n ≤ sizeLine) (hobj : ∀ i h, St i h → ∃ its, Objs ws its ∧ ∀ p ∈ its, h.get? p.1 = some p.2) (hws : ∀ b ∈ ws.map (·.1), b < s₂.heap.objs.size ∧ h₀.get? b = none ∧ b ≠ L) (hwr : ∀ b ∈ wr, b ∈ ws.map (·.1)) (hfp : ∀ b ∈ fp, b < s₂.heap.objs.size ∧ (b ∈ ws.map (·.1) ∨ (∃ o, (b, o) ∈ fix) ∨ ∃ o, h₀.get? b = some o)) (hnw : ∀ p ∈ fix ++ add₀, p.1 ∉ ws.map (·.1)) (hcell : ∀ y ∈ scope.names, y.2 ≠ .cell) (hkind : scope.kind = .function) (hnd : names.Nodup) (hloc : ∀ x ∈ names, scope.names.lookup x = some .local) (hst : St 0 s₂.heap) (F : Fr h₀ L s₂.heap m) (N : News h₀ L s₂.heap (fix ++ add₀)) (hB : ∀ i v h add, i < n → P i v h → News h₀ L h (fix ++ add) → (∀ p ∈ add₀, p ∈ add) → ∃ vals, Bd h target v (names.zip vals) ∧ vals.length = names.length ∧ B i vals) (h0 : J 0 [] add₀) (R : CompTurns prog w A h₀ L m env ct elt scope cl s₂ ws names n fix add₀ J B) (hRR : ∀ D C h tk m' ys add, Fr h₀ L h m → News h₀ L h ((D, lst ys) :: (fix ++ add)) → (∀ p ∈ fix ++ add, p.1 ≠ D) → h.Ns C m' → h₀.get? C = none → h₀.get? D = none → C ≠ L → D ≠ L → C ≠ D → (∀ p ∈ fix ++ add, p.1 ≠ C) → (∀ p ∈ add₀, p ∈ add) → (∀ p ∈ fix ++ add₀, p.1 < D) → J n ys add → RR (.ref D) C (.ok .next) { s₂ with heap := h, toks := tk }), wpAny (model prog w) A (newList []) (fun acc s₃ => wpAny (model prog w) A (newFunctionEnv scope env.globals cl [] env.qual none .none (some env)) (fun cenv s₄ =>
      codeAny (model prog w) A (.compStart (.ListComp elt [⟨target, iter, ct.toList, 0⟩] scope pos) 0 (.ref I) acc { cenv with scope := relabel scope env }) (RR acc cenv.locals) s₄) E s₃) E s₂) q.1 q.2.1 q.2.2.1 q.2.2.2.1 q.2.2.2.2.1 q.2.2.2.2.2.1 q.2.2.2.2.2.2.1 q.2.2.2.2.2.2.2.1 q.2.2.2.2.2.2.2.2.1 q.2.2.2.2.2.2.2.2.2.1 q.2.2.2.2.2.2.2.2.2.2.1 q.2.2.2.2.2.2.2.2.2.2.2.1 q.2.2.2.2.2.2.2.2.2.2.2.2.1 q.2.2.2.2.2.2.2.2.2.2.2.2.2.1 q.2.2.2.2.2.2.2.2.2.2.2.2.2.2.1 q.2.2.2.2.2.2.2.2.2.2.2.2.2.2.2.1 q.2.2.2.2.2.2.2.2.2.2.2.2.2.2.2.2.1 q.2.2.2.2.2.2.2.2.2.2.2.2.2.2.2.2.2.1 q.2.2.2.2.2.2.2.2.2.2.2.2.2.2.2.2.2.2.1 q.2.2.2.2.2.2.2.2.2.2.2.2.2.2.2.2.2.2.2.1 q.2.2.2.2.2.2.2.2.2.2.2.2.2.2.2.2.2.2.2.2.1 q.2.2.2.2.2.2.2.2.2.2.2.2.2.2.2.2.2.2.2.2.2.1 q.2.2.2.2.2.2.2.2.2.2.2.2.2.2.2.2.2.2.2.2.2.2.1 q.2.2.2.2.2.2.2.2.2.2.2.2.2.2.2.2.2.2.2.2.2.2.2.1 q.2.2.2.2.2.2.2.2.2.2.2.2.2.2.2.2.2.2.2.2.2.2.2.2.1 q.2.2.2.2.2.2.2.2.2.2.2.2.2.2.2.2.2.2.2.2.2.2.2.2.2.1 q.2.2.2.2.2.2.2.2.2.2.2.2.2.2.2.2.2.2.2.2.2.2.2.2.2.2.1 q.2.2.2.2.2.2.2.2.2.2.2.2.2.2.2.2.2.2.2.2.2.2.2.2.2.2.2
theorem epsN : Nonempty (Program × World × (Value → Shared → Prop) × Heap × Addr × (Str → Option Value) × Env × Expr × Expr × Expr × Scope × (List (Str × Addr)) × Pos × Shared × Addr × (List Addr) × (List Addr) × Nat × (Nat → Value → Heap → Prop) × (Nat → Value → Heap → Prop) × (Nat → Heap → Prop) × (List (Addr × String)) × (List Str) × Led × Led × (Nat → List Value → Led → Prop) × (Nat → List Value → Prop) × (Value → Addr → Result → Shared → Prop)) := ⟨(default, Classical.choice neWorld, default, default, default, default, { scope := ⟨.module, [], false, false, []⟩, locals := 0, globals := 0, cells := [] }, default, default, default, ⟨.module, [], false, false, []⟩, default, default, {}, default, default, default, default, default, default, default, default, default, default, default, default, default, default)⟩
@[irreducible] noncomputable def epsC : Program × World × (Value → Shared → Prop) × Heap × Addr × (Str → Option Value) × Env × Expr × Expr × Expr × Scope × (List (Str × Addr)) × Pos × Shared × Addr × (List Addr) × (List Addr) × Nat × (Nat → Value → Heap → Prop) × (Nat → Value → Heap → Prop) × (Nat → Heap → Prop) × (List (Addr × String)) × (List Str) × Led × Led × (Nat → List Value → Led → Prop) × (Nat → List Value → Prop) × (Value → Addr → Result → Shared → Prop) := worst epsN epsP
@[irreducible] noncomputable def prog : Program := epsC.1
@[irreducible] noncomputable def w : World := epsC.2.1
@[irreducible] noncomputable def E : Value → Shared → Prop := epsC.2.2.1
@[irreducible] noncomputable def h₀ : Heap := epsC.2.2.2.1
@[irreducible] noncomputable def L : Addr := epsC.2.2.2.2.1
@[irreducible] noncomputable def m : Str → Option Value := epsC.2.2.2.2.2.1
@[irreducible] noncomputable def env : Env := epsC.2.2.2.2.2.2.1
@[irreducible] noncomputable def target : Expr := epsC.2.2.2.2.2.2.2.1
@[irreducible] noncomputable def elt : Expr := epsC.2.2.2.2.2.2.2.2.1
@[irreducible] noncomputable def iter : Expr := epsC.2.2.2.2.2.2.2.2.2.1
@[irreducible] noncomputable def scope : Scope := epsC.2.2.2.2.2.2.2.2.2.2.1
@[irreducible] noncomputable def cl : List (Str × Addr) := epsC.2.2.2.2.2.2.2.2.2.2.2.1
@[irreducible] noncomputable def pos : Pos := epsC.2.2.2.2.2.2.2.2.2.2.2.2.1
@[irreducible] noncomputable def s₂ : Shared := epsC.2.2.2.2.2.2.2.2.2.2.2.2.2.1
@[irreducible] noncomputable def I : Addr := epsC.2.2.2.2.2.2.2.2.2.2.2.2.2.2.1
@[irreducible] noncomputable def fp : List Addr := epsC.2.2.2.2.2.2.2.2.2.2.2.2.2.2.2.1
@[irreducible] noncomputable def wr : List Addr := epsC.2.2.2.2.2.2.2.2.2.2.2.2.2.2.2.2.1
@[irreducible] noncomputable def n : Nat := epsC.2.2.2.2.2.2.2.2.2.2.2.2.2.2.2.2.2.1
@[irreducible] noncomputable def P : Nat → Value → Heap → Prop := epsC.2.2.2.2.2.2.2.2.2.2.2.2.2.2.2.2.2.2.1
@[irreducible] noncomputable def Md : Nat → Value → Heap → Prop := epsC.2.2.2.2.2.2.2.2.2.2.2.2.2.2.2.2.2.2.2.1
@[irreducible] noncomputable def St : Nat → Heap → Prop := epsC.2.2.2.2.2.2.2.2.2.2.2.2.2.2.2.2.2.2.2.2.1
@[irreducible] noncomputable def ws : List (Addr × String) := epsC.2.2.2.2.2.2.2.2.2.2.2.2.2.2.2.2.2.2.2.2.2.1
@[irreducible] noncomputable def names : List Str := epsC.2.2.2.2.2.2.2.2.2.2.2.2.2.2.2.2.2.2.2.2.2.2.1
@[irreducible] noncomputable def fix : Led := epsC.2.2.2.2.2.2.2.2.2.2.2.2.2.2.2.2.2.2.2.2.2.2.2.1
@[irreducible] noncomputable def add₀ : Led := epsC.2.2.2.2.2.2.2.2.2.2.2.2.2.2.2.2.2.2.2.2.2.2.2.2.1
@[irreducible] noncomputable def J : Nat → List Value → Led → Prop := epsC.2.2.2.2.2.2.2.2.2.2.2.2.2.2.2.2.2.2.2.2.2.2.2.2.2.1
@[irreducible] noncomputable def B : Nat → List Value → Prop := epsC.2.2.2.2.2.2.2.2.2.2.2.2.2.2.2.2.2.2.2.2.2.2.2.2.2.2.1
@[irreducible] noncomputable def RR : Value → Addr → Result → Shared → Prop := epsC.2.2.2.2.2.2.2.2.2.2.2.2.2.2.2.2.2.2.2.2.2.2.2.2.2.2.2
theorem walk (A : Around) (ct : Option Expr) (hh : A.handled = none) (W : KTurns prog w A target I fp wr n P Md St) (hself : ∀ (s : Shared) (Q : Value → Shared → Prop) (E : Value → Shared → Prop), St 0 s.heap → Q (.ref I) s → wpAny (model prog w) A (pyIter (.ref I)) Q E s) (hsz : n ≤ sizeLine) (hobj : ∀ i h, St i h → ∃ its, Objs ws its ∧ ∀ p ∈ its, h.get? p.1 = some p.2) (hws : ∀ b ∈ ws.map (·.1), b < s₂.heap.objs.size ∧ h₀.get? b = none ∧ b ≠ L) (hwr : ∀ b ∈ wr, b ∈ ws.map (·.1)) (hfp : ∀ b ∈ fp, b < s₂.heap.objs.size ∧ (b ∈ ws.map (·.1) ∨ (∃ o, (b, o) ∈ fix) ∨ ∃ o, h₀.get? b = some o)) (hnw : ∀ p ∈ fix ++ add₀, p.1 ∉ ws.map (·.1)) (hcell : ∀ y ∈ scope.names, y.2 ≠ .cell) (hkind : scope.kind = .function) (hnd : names.Nodup) (hloc : ∀ x ∈ names, scope.names.lookup x = some .local) (hst : St 0 s₂.heap) (F : Fr h₀ L s₂.heap m) (N : News h₀ L s₂.heap (fix ++ add₀)) (hB : ∀ i v h add, i < n → P i v h → News h₀ L h (fix ++ add) → (∀ p ∈ add₀, p ∈ add) → ∃ vals, Bd h target v (names.zip vals) ∧ vals.length = names.length ∧ B i vals) (h0 : J 0 [] add₀) (R : CompTurns prog w A h₀ L m env ct elt scope cl s₂ ws names n fix add₀ J B) (hRR : ∀ D C h tk m' ys add, Fr h₀ L h m → News h₀ L h ((D, lst ys) :: (fix ++ add)) → (∀ p ∈ fix ++ add, p.1 ≠ D) → h.Ns C m' → h₀.get? C = none → h₀.get? D = none → C ≠ L → D ≠ L → C ≠ D → (∀ p ∈ fix ++ add, p.1 ≠ C) → (∀ p ∈ add₀, p ∈ add) → (∀ p ∈ fix ++ add₀, p.1 < D) → J n ys add → RR (.ref D) C (.ok .next) { s₂ with heap := h, toks := tk }) : wpAny (model prog w) A (newList []) (fun acc s₃ => wpAny (model prog w) A (newFunctionEnv scope env.globals cl [] env.qual none .none (some env)) (fun cenv s₄ =>
      codeAny (model prog w) A (.compStart (.ListComp elt [⟨target, iter, ct.toList, 0⟩] scope pos) 0 (.ref I) acc { cenv with scope := relabel scope env }) (RR acc cenv.locals) s₄) E s₃) E s₂ := by
  refine wpAny_newObj_type (wpAny_newFunctionEnv hcell (by intro y hy; simp at hy) (fun h₁ hns₁ hsb₁ => ?_) hkind)
  dsimp only at hns₁ hsb₁ ⊢
  generalize hH2 : s₂.heap.push { cls := .type "list", dict := none, data := .seq ([] : List Value).toArray } = H2 at hns₁ hsb₁ ⊢
  have hC : H2.objs.size = s₂.heap.objs.size + 1 := by rw [← hH2, Heap.size_push]
  have hDC : s₂.heap.objs.size ≠ H2.objs.size := by rw [hC]; exact Nat.ne_of_lt (Nat.lt_succ_self _)
  have below : ∀ b, b < s₂.heap.objs.size → b ≠ H2.objs.size ∧ b ≠ s₂.heap.objs.size := fun b hb => ⟨by rw [hC]; exact Nat.ne_of_lt (Nat.lt_succ_of_lt hb), Nat.ne_of_lt hb⟩
  have old : ∀ b o, s₂.heap.get? b = some o → h₁.get? b = some o := fun b o e => hsb₁.extBut b o (below b (Heap.lt_size e)).1 (Heap.get?_push_of_some _ (hH2 ▸ Heap.get?_push_of_some _ e))
  have hacc : h₁.get? s₂.heap.objs.size = some (lst []) := hsb₁.extBut _ _ hDC (Heap.get?_push_of_some _ (hH2 ▸ Heap.get?_push_size _ rfl))
  have hst₁ : St 0 h₁ := W.frame _ _ _ hst fun b _ o e => old b o e
  have fresh₀ : ∀ a, s₂.heap.objs.size ≤ a → h₀.get? a = none := fun a ha => by
    cases e : h₀.get? a with
    | none => rfl
    | some o' => exact absurd (Heap.lt_size (F.keep a o' e)) (Nat.not_lt.mpr ha)
  have hD₀ : h₀.get? s₂.heap.objs.size = none := fresh₀ _ (Nat.le_refl _)
  have hC₀ : h₀.get? H2.objs.size = none := fresh₀ _ (by rw [hC]; exact Nat.le_succ _)
  have hLlt : L < s₂.heap.objs.size := F.ns.lt
  have hDL : s₂.heap.objs.size ≠ L := Ne.symm (below L hLlt).2
  have hCL : H2.objs.size ≠ L := Ne.symm (below L hLlt).1
  have hwC : H2.objs.size ∉ wr := fun hb => (below _ (hws _ (hwr _ hb)).1).1 rfl
  have hwD : s₂.heap.objs.size ∉ wr := fun hb => (below _ (hws _ (hwr _ hb)).1).2 rfl
  have hwL : L ∉ wr := fun hb => (hws _ (hwr _ hb)).2.2 rfl
  have hw₀ : ∀ b o, h₀.get? b = some o → b ∉ wr := fun b o e hb => by rw [(hws _ (hwr _ hb)).2.1] at e; cases e
  have off₀ : ∀ p ∈ fix ++ add₀, p.1 ∉ ws.map (·.1) ∧ p.1 ≠ H2.objs.size ∧ p.1 ≠ s₂.heap.objs.size := fun p hp => ⟨hnw p hp, below _ (Heap.lt_size (N p hp).1)⟩
  have loop : ∀ s₃ : Shared, s₃ = { s₂ with heap := h₁, toks := s₂.toks + ([] : List (Str × Value)).length } →
      codeAny (model prog w) A (.compLoop (.ListComp elt [⟨target, iter, ct.toList, 0⟩] scope pos) 0 (.ref I) (.ref s₂.heap.objs.size) (compEnvC scope cl H2.objs.size env))
        (RR (.ref s₂.heap.objs.size) H2.objs.size) s₃ := by
    rintro s₃ rfl
    refine comp_loop
      (fun k s' => ∃ h' tk i ys m' add, s' = { s₂ with heap := h', toks := tk } ∧ i ≤ n ∧ k = n + 1 - i ∧ ys.length ≤ i ∧ St i h' ∧ Fr h₀ L h' m ∧ h'.Ns H2.objs.size m' ∧
        News h₀ L h' ((s₂.heap.objs.size, lst ys) :: (fix ++ add)) ∧ (∀ p ∈ fix ++ add, p.1 ∉ ws.map (·.1) ∧ p.1 ≠ H2.objs.size ∧ p.1 ≠ s₂.heap.objs.size) ∧ (∀ p ∈ add₀, p ∈ add) ∧ J i ys add) ?_ (n + 1)
      ⟨h₁, _, 0, [], _, add₀, rfl, Nat.zero_le _, rfl, Nat.le_refl _, hst₁, F.keeps old, hns₁, fun p hp => ?_, off₀, fun _ h => h, h0⟩
    · rintro k s' ⟨h', tk, i, ys, m', add, rfl, hi, rfl, hyl, hst', F', hn', N', off', hsub, hJ⟩
      have next : ∀ h₂ : Heap, (∀ b o, b ∉ wr → h'.get? b = some o → h₂.get? b = some o) → Fr h₀ L h₂ m ∧ h₂.Ns H2.objs.size m' ∧ News h₀ L h₂ ((s₂.heap.objs.size, lst ys) :: (fix ++ add)) := fun h₂ hk => by
        refine ⟨⟨F'.ns.at' fun o e => hk _ o hwL e, fun b o e => hk b o (hw₀ b o e) (F'.keep b o e), F'.above⟩, hn'.at' fun o e => hk _ o hwC e, fun p hp => ⟨hk _ _ ?_ (N' p hp).1, (N' p hp).2⟩⟩
        rcases List.mem_cons.mp hp with rfl | hp
        · exact hwD
        · exact fun hb => (off' p hp).1 (hwr _ hb)
      by_cases hlt : i < n
      · refine W.item i _ _ _ hlt hst' fun v h₂ tk₂ hMd hk₂ => ?_
        refine W.go i v _ _ _ hMd fun h₃ hP hst₃ hk₃ => ?_
        obtain ⟨F₃, hn₃, N₃⟩ := next h₃ fun b o hb x => hk₃ b o hb (hk₂ b o hb x)
        obtain ⟨vals, hbd, hvl, hBv⟩ := hB i v h₃ add hlt hP (fun p hp => N₃ p (List.mem_cons_of_mem _ hp)) hsub
        have hnm : (names.zip vals).map (·.1) = names := List.map_fst_zip (Nat.le_of_eq hvl.symm)
        refine assign_bd (env := compEnvC scope cl H2.objs.size env) hh (by simp [compEnvC, relabel, hkind]) hbd hn₃ (fun p hp => lookup_relabel_local (hloc _ (hnm ▸ List.mem_map_of_mem hp))) (fun _ _ _ e => e) hn₃ fun h₄ tk₄ hn₄ hk₄ => ?_
        have hst₄ : St (i + 1) h₄ := W.frame _ _ _ hst₃ fun b hb o e => hk₄ b o (below _ (hfp b hb).1).1 e
        have F₄ : Fr h₀ L h₄ m := ⟨F₃.ns.at' fun o e => hk₄ _ o (Ne.symm hCL) e, fun b o e => hk₄ b o (fun q => by rw [show b = H2.objs.size from q, hC₀] at e; cases e) (F₃.keep b o e), F₃.above⟩
        obtain ⟨its, hits, hval⟩ := hobj _ _ hst₄
        have hmap := hits.map
        obtain ⟨oC, heC, hoC⟩ := ns_obj hn₄
        have wsm : ∀ q ∈ its, q.1 ∈ ws.map (·.1) := fun q hq => by rw [← hmap]; exact List.mem_map.mpr ⟨q, hq, rfl⟩
        have N₄ : News h₀ L h₄ ((H2.objs.size, oC) :: (s₂.heap.objs.size, lst ys) :: (its ++ (fix ++ add))) := fun p hp => by
          rcases List.mem_cons.mp hp with rfl | hp
          · exact ⟨heC, hCL, hC₀⟩
          rcases List.mem_cons.mp hp with rfl | hp
          · exact ⟨hk₄ _ _ hDC (N₃ _ List.mem_cons_self).1, hDL, hD₀⟩
          rcases List.mem_append.mp hp with hp | hp
          · exact ⟨hval p hp, (hws _ (wsm p hp)).2.2, (hws _ (wsm p hp)).2.1⟩
          · have z := N₃ p (List.mem_cons_of_mem _ hp)
            exact ⟨hk₄ _ _ (off' p hp).2.1 z.1, z.2⟩
        have off₄ : ∀ p ∈ fix ++ add, ∀ q ∈ (H2.objs.size, oC) :: (s₂.heap.objs.size, lst ys) :: its, p.1 ≠ q.1 := fun p hp q hq => by
          rcases List.mem_cons.mp hq with rfl | hq
          · exact (off' p hp).2.1
          rcases List.mem_cons.mp hq with rfl | hq
          · exact (off' p hp).2.2
          · exact fun e => (off' p hp).1 (e ▸ wsm q hq)
        have fin : ∀ (ys' : List Value) (h₅ h₆ : Heap) (tk₅ : Nat) (new : Led), ys'.length ≤ i + 1 → Fr h₀ L h₅ m → News h₀ L h₅ (((H2.objs.size, oC) :: (s₂.heap.objs.size, lst ys) :: its) ++ (fix ++ (new ++ add))) → (∀ p ∈ new, ∀ q ∈ (H2.objs.size, oC) :: (s₂.heap.objs.size, lst ys) :: its, p.1 ≠ q.1) →
            (∀ b o, b ≠ s₂.heap.objs.size → h₅.get? b = some o → h₆.get? b = some o) → h₆.get? s₂.heap.objs.size = some (lst ys') → J (i + 1) ys' (new ++ add) →
            ∃ q', q' < n + 1 - i ∧ (∃ h' tk i ys m' add, ({ s₂ with heap := h₆, toks := tk₅ } : Shared) = { s₂ with heap := h', toks := tk } ∧ i ≤ n ∧ q' = n + 1 - i ∧ ys.length ≤ i ∧ St i h' ∧ Fr h₀ L h' m ∧ h'.Ns H2.objs.size m' ∧
              News h₀ L h' ((s₂.heap.objs.size, lst ys) :: (fix ++ add)) ∧ (∀ p ∈ fix ++ add, p.1 ∉ ws.map (·.1) ∧ p.1 ≠ H2.objs.size ∧ p.1 ≠ s₂.heap.objs.size) ∧ (∀ p ∈ add₀, p ∈ add) ∧ J i ys add) := by
          intro ys' h₅ h₆ tk₅ new hl F₅ N₅ offN hk₆ hD₆ hJ₅
          have zC := (N₅ (H2.objs.size, oC) (List.mem_append_left _ List.mem_cons_self)).1
          have offF : ∀ p ∈ fix ++ (new ++ add), p.1 ∉ ws.map (·.1) ∧ p.1 ≠ H2.objs.size ∧ p.1 ≠ s₂.heap.objs.size := fun p hp => by
            rcases List.mem_append.mp hp with hp | hp
            · exact off' p (List.mem_append_left _ hp)
            rcases List.mem_append.mp hp with hp | hp
            · refine ⟨fun hb => ?_, offN p hp _ List.mem_cons_self, offN p hp _ (List.mem_cons_of_mem _ List.mem_cons_self)⟩
              rw [← hmap] at hb
              obtain ⟨q, hq, hqe⟩ := List.mem_map.mp hb
              exact offN p hp q (List.mem_cons_of_mem _ (List.mem_cons_of_mem _ hq)) hqe.symm
            · exact off' p (List.mem_append_right _ hp)
          have hst₅ : St (i + 1) h₅ := W.frame _ _ _ hst₄ fun b hb o e => by
            rcases (hfp b hb).2 with hb' | ⟨o', hb'⟩ | ⟨o', hb'⟩
            · rw [← hmap] at hb'
              obtain ⟨q, hq, rfl⟩ := List.mem_map.mp hb'
              have e1 := hval q hq
              rw [e] at e1
              cases e1
              exact (N₅ q (List.mem_append_left _ (List.mem_cons_of_mem _ (List.mem_cons_of_mem _ hq)))).1
            · have e1 := (N₄ (b, o') (List.mem_cons_of_mem _ (List.mem_cons_of_mem _ (List.mem_append_right _ (List.mem_append_left _ hb'))))).1
              have e2 : h₄.get? b = some o' := e1
              rw [e] at e2
              cases e2
              exact (N₅ (b, o) (List.mem_append_right _ (List.mem_append_left _ hb'))).1
            · have e2 := F₄.keep b o' hb'
              rw [e] at e2
              cases e2
              exact F₅.keep b o hb'
          have hst₆ : St (i + 1) h₆ := W.frame _ _ _ hst₅ fun b hb o e => hk₆ b o (below _ (hfp b hb).1).2 e
          refine ⟨n + 1 - (i + 1), by omega, h₆, tk₅, i + 1, ys', _, new ++ add, rfl, hlt, rfl, hl, hst₆, ⟨F₅.ns.at' fun o e => hk₆ _ o (Ne.symm hDL) e, fun b o e => hk₆ b o (fun q => by rw [show b = s₂.heap.objs.size from q, hD₀] at e; cases e) (F₅.keep b o e), F₅.above⟩, (hoC.ns zC).at' fun o e => hk₆ _ o (Ne.symm hDC) e, fun p hp => ?_, offF, fun p hp => List.mem_append_right _ (hsub p hp), hJ₅⟩
          rcases List.mem_cons.mp hp with rfl | hp
          · exact ⟨hD₆, hDL, hD₀⟩
          · have z := N₅ p (List.mem_append_right _ hp)
            exact ⟨hk₆ _ _ (offF p hp).2.2 z.1, z.2⟩
        have turn := AllObj.at (R i ys add vals oC H2.objs.size s₂.heap.objs.size _ h₄ tk₄ (notedBy (model prog w) A (compEnvC scope cl H2.objs.size env) fun e s' => RR (.ref s₂.heap.objs.size) H2.objs.size (.error e) s') hlt hJ hsub hBv hoC (put_at (by rw [hnm]; exact hnd)) F₄) hits N₄ off₄
        have body : ∀ (ok : Bool) (s₅ : Shared), (if ok = true then
            wpAny (model prog w) A (eval elt (compEnvC scope cl H2.objs.size env)) (CEnd h₀ L m { s₂ with heap := h₄, toks := tk₄ } ((H2.objs.size, oC) :: (s₂.heap.objs.size, lst ys) :: its) fix add (fun y add' => J (i + 1) (ys ++ [y]) add')) (notedBy (model prog w) A (compEnvC scope cl H2.objs.size env) fun e s' => RR (.ref s₂.heap.objs.size) H2.objs.size (.error e) s') s₅
            else CEnd h₀ L m { s₂ with heap := h₄, toks := tk₄ } ((H2.objs.size, oC) :: (s₂.heap.objs.size, lst ys) :: its) fix add (fun _ add' => J (i + 1) ys add') Value.none s₅) →
            (if ok = true then wpAny (model prog w) A (eval elt (compEnvC scope cl H2.objs.size env)) (fun x s₄ =>
              wpAny (model prog w) A (call (.builtin "list.append") [.ref s₂.heap.objs.size, x]) (fun _ s₅ => ∃ q', q' < n + 1 - i ∧ (∃ h' tk i ys m' add, s₅ = { s₂ with heap := h', toks := tk } ∧ i ≤ n ∧ q' = n + 1 - i ∧ ys.length ≤ i ∧ St i h' ∧ Fr h₀ L h' m ∧ h'.Ns H2.objs.size m' ∧
              News h₀ L h' ((s₂.heap.objs.size, lst ys) :: (fix ++ add)) ∧ (∀ p ∈ fix ++ add, p.1 ∉ ws.map (·.1) ∧ p.1 ≠ H2.objs.size ∧ p.1 ≠ s₂.heap.objs.size) ∧ (∀ p ∈ add₀, p ∈ add) ∧ J i ys add)) (notedBy (model prog w) A (compEnvC scope cl H2.objs.size env) fun e s' => RR (.ref s₂.heap.objs.size) H2.objs.size (.error e) s') s₄) (notedBy (model prog w) A (compEnvC scope cl H2.objs.size env) fun e s' => RR (.ref s₂.heap.objs.size) H2.objs.size (.error e) s') s₅
            else ∃ q', q' < n + 1 - i ∧ (∃ h' tk i ys m' add, s₅ = { s₂ with heap := h', toks := tk } ∧ i ≤ n ∧ q' = n + 1 - i ∧ ys.length ≤ i ∧ St i h' ∧ Fr h₀ L h' m ∧ h'.Ns H2.objs.size m' ∧
              News h₀ L h' ((s₂.heap.objs.size, lst ys) :: (fix ++ add)) ∧ (∀ p ∈ fix ++ add, p.1 ∉ ws.map (·.1) ∧ p.1 ≠ H2.objs.size ∧ p.1 ≠ s₂.heap.objs.size) ∧ (∀ p ∈ add₀, p ∈ add) ∧ J i ys add)) := by
          intro ok s₅ hq
          cases ok with
          | false =>
            simp only [Bool.false_eq_true, if_false] at hq ⊢
            obtain ⟨h₅, tk₅, new, rfl, F₅, N₅, offN, hJ₅⟩ := hq
            exact fin ys h₅ h₅ tk₅ new (Nat.le_succ_of_le hyl) F₅ N₅ offN (fun _ _ _ e => e) (N₅ _ (List.mem_append_left _ (List.mem_cons_of_mem _ List.mem_cons_self))).1 hJ₅
          | true =>
            simp only [if_true] at hq ⊢
            refine wpAny_mono hq (fun y s₆ h₆ => ?_) fun _ _ e => e
            obtain ⟨h₅, tk₅, new, rfl, F₅, N₅, offN, hJ₅⟩ := h₆
            have zD := (N₅ (s₂.heap.objs.size, lst ys) (List.mem_append_left _ (List.mem_cons_of_mem _ List.mem_cons_self))).1
            refine append_at (hsz := by show ys.toArray.size ≤ sizeLine; rw [List.size_toArray]; exact Nat.le_trans (Nat.le_trans hyl hi) hsz) zD fun h₆ hs₆ hD₆ => ?_
            exact fin (ys ++ [y]) h₅ h₆ tk₅ new (by rw [List.length_append, List.length_singleton]; exact Nat.succ_le_succ hyl) F₅ N₅ offN (fun b o hb e => hs₆.extBut b o hb e) (hD₆.trans (congrArg some (lst_snoc ys y))) hJ₅
        cases ct with
        | none => exact body true _ turn
        | some c => exact wpAny_mono turn (fun ok s₅ hq => body ok s₅ hq) fun _ _ e => e
      · have hin : i = n := Nat.le_antisymm hi (Nat.not_lt.mp hlt)
        subst hin
        refine W.done _ _ _ hst' fun h₂ tk₂ hk₂ => ?_
        obtain ⟨F₂, hn₂, N₂⟩ := next h₂ hk₂
        exact hRR _ _ h₂ tk₂ _ ys add F₂ N₂ (fun p hp => (off' p hp).2.2) hn₂ hC₀ hD₀ hCL hDL (Ne.symm hDC) (fun p hp => (off' p hp).2.1) hsub (fun p hp => Heap.lt_size (N p hp).1) hJ
    · rcases List.mem_cons.mp hp with rfl | hp
      · exact ⟨hacc, hDL, hD₀⟩
      · exact ⟨old _ _ (N p hp).1, (N p hp).2⟩
  exact codeAny_compStart_list (loop _ rfl) (hself _ _ _ hst₁ (loop _ rfl))
theorem fin : epsP epsC := by with_unfolding_all exact fun A ct hh W hself hsz hobj hws hwr hfp hnw hcell hkind hnd hloc hst F N hB h0 R hRR => walk A ct hh W hself hsz hobj hws hwr hfp hnw hcell hkind hnd hloc hst F N hB h0 R hRR
end E_comp_block
theorem comp_block {prog : Program} {w : World} {A : Around} {E : Value → Shared → Prop} {h₀ : Heap} {L : Addr} {m : Str → Option Value} {env : Env} {ct : Option Expr} {target elt iter : Expr} {scope : Scope} {cl : List (Str × Addr)} {pos : Pos} {s₂ : Shared} {I : Addr} {fp wr : List Addr} {n : Nat} {P Md : Nat → Value → Heap → Prop} {St : Nat → Heap → Prop} {ws : List (Addr × String)} {names : List Str} {fix add₀ : Led} {J : Nat → List Value → Led → Prop} {B : Nat → List Value → Prop} {RR : Value → Addr → Result → Shared → Prop} (hh : A.handled = none) (W : KTurns prog w A target I fp wr n P Md St) (hself : ∀ (s : Shared) (Q : Value → Shared → Prop) (E : Value → Shared → Prop), St 0 s.heap → Q (.ref I) s → wpAny (model prog w) A (pyIter (.ref I)) Q E s) (hsz : n ≤ sizeLine) (hobj : ∀ i h, St i h → ∃ its, Objs ws its ∧ ∀ p ∈ its, h.get? p.1 = some p.2) (hws : ∀ b ∈ ws.map (·.1), b < s₂.heap.objs.size ∧ h₀.get? b = none ∧ b ≠ L) (hwr : ∀ b ∈ wr, b ∈ ws.map (·.1)) (hfp : ∀ b ∈ fp, b < s₂.heap.objs.size ∧ (b ∈ ws.map (·.1) ∨ (∃ o, (b, o) ∈ fix) ∨ ∃ o, h₀.get? b = some o)) (hnw : ∀ p ∈ fix ++ add₀, p.1 ∉ ws.map (·.1)) (hcell : ∀ y ∈ scope.names, y.2 ≠ .cell) (hkind : scope.kind = .function) (hnd : names.Nodup) (hloc : ∀ x ∈ names, scope.names.lookup x = some .local) (hst : St 0 s₂.heap) (F : Fr h₀ L s₂.heap m) (N : News h₀ L s₂.heap (fix ++ add₀)) (hB : ∀ i v h add, i < n → P i v h → News h₀ L h (fix ++ add) → (∀ p ∈ add₀, p ∈ add) → ∃ vals, Bd h target v (names.zip vals) ∧ vals.length = names.length ∧ B i vals) (h0 : J 0 [] add₀) (R : CompTurns prog w A h₀ L m env ct elt scope cl s₂ ws names n fix add₀ J B) (hRR : ∀ D C h tk m' ys add, Fr h₀ L h m → News h₀ L h ((D, lst ys) :: (fix ++ add)) → (∀ p ∈ fix ++ add, p.1 ≠ D) → h.Ns C m' → h₀.get? C = none → h₀.get? D = none → C ≠ L → D ≠ L → C ≠ D → (∀ p ∈ fix ++ add, p.1 ≠ C) → (∀ p ∈ add₀, p ∈ add) → (∀ p ∈ fix ++ add₀, p.1 < D) → J n ys add → RR (.ref D) C (.ok .next) { s₂ with heap := h, toks := tk }) : wpAny (model prog w) A (newList []) (fun acc s₃ => wpAny (model prog w) A (newFunctionEnv scope env.globals cl [] env.qual none .none (some env)) (fun cenv s₄ =>
      codeAny (model prog w) A (.compStart (.ListComp elt [⟨target, iter, ct.toList, 0⟩] scope pos) 0 (.ref I) acc { cenv with scope := relabel scope env }) (RR acc cenv.locals) s₄) E s₃) E s₂ := of_worst (P := E_comp_block.epsP) (h := E_comp_block.epsN) (by with_unfolding_all exact E_comp_block.fin) (prog, w, E, h₀, L, m, env, target, elt, iter, scope, cl, pos, s₂, I, fp, wr, n, P, Md, St, ws, names, fix, add₀, J, B, RR) A ct hh W hself hsz hobj hws hwr hfp hnw hcell hkind hnd hloc hst F N hB h0 R hRR
section
variable {prog : Program} {w : World} {A : Around} {E : Value → Shared → Prop} {h₀ : Heap} {L : Addr} {m : Str → Option Value} {env : Env}
theorem CEnd.mk {s₁ : Shared} {own fix add all : Led} {rest : Value → Led → Prop} {y : Value} {h' : Heap} {tk : Nat} (F : Fr h₀ L h' m) (N : News h₀ L h' all) (new : Led) (sub : ∀ p ∈ own ++ (fix ++ (new ++ add)), p ∈ all) (off : ∀ p ∈ new, ∀ q ∈ own, @Ne Nat p.1 q.1) (r : rest y (new ++ add)) :
    CEnd h₀ L m s₁ own fix add rest y { s₁ with heap := h', toks := tk } := ⟨h', tk, new, rfl, F, fun p hp => N p (sub p hp), off, r⟩
end
/-- lists and tuples alone -/
noncomputable def Seqs (led : Led) : Prop := ∀ p ∈ led, ∃ its n, p.2.data = .seq its n
theorem seqs_off {h₀ h : Heap} {L : Addr} {all P : Led} {c : Addr} {oc : Obj} {v : Option Value} (hs : Seqs P) (N : News h₀ L h all) (hP : ∀ p ∈ P, p ∈ all) (hc : (c, oc) ∈ all) (hd : oc.data = .cell v) : ∀ p ∈ P, @Ne Nat p.1 c := fun p hp e => by
  obtain ⟨its, n, h1⟩ := hs p hp
  have q1 := (N _ (hP p hp)).1
  have q2 := (N _ hc).1
  rw [show p.1 = c from e, show h.get? c = some oc from q2] at q1
  rw [← Option.some.inj q1, hd] at h1
  cases h1
theorem dat_snoc {led led' : Led} {ys : List Value} {y : Value} {d : Nat → Dat} {i : Nat} (h : DatAll led ys ((List.range i).map d)) (hs : ∀ p ∈ led, p ∈ led') (hy : DatIn led' y (d i)) : DatAll led' (ys ++ [y]) ((List.range (i + 1)).map d) := by
  rw [List.range_succ, List.map_append]
  exact (h.mono hs).append (.cons hy .nil)
theorem dat_yes {α : Type} {led led' : Led} {ys : List Value} {y : Value} {sl : Nat → Option α} {d : α → Dat} {i : Nat} {a : α} (h : DatAll led ys (((List.range i).filterMap sl).map d)) (hs : ∀ p ∈ led, p ∈ led') (ha : sl i = some a) (hy : DatIn led' y (d a)) : DatAll led' (ys ++ [y]) (((List.range (i + 1)).filterMap sl).map d) := by
  rw [List.range_succ, List.filterMap_append, List.map_append]
  refine (h.mono hs).append ?_
  rw [List.filterMap_cons, ha]
  exact .cons hy .nil
theorem dat_no {α : Type} {led led' : Led} {ys : List Value} {sl : Nat → Option α} {d : α → Dat} {i : Nat} (h : DatAll led ys (((List.range i).filterMap sl).map d)) (hs : ∀ p ∈ led, p ∈ led') (ha : sl i = none) : DatAll led' ys (((List.range (i + 1)).filterMap sl).map d) := by
  rw [List.range_succ, List.filterMap_append, List.filterMap_cons, ha]
  rw [List.filterMap_nil, List.append_nil]
  exact h.mono hs
end
section
open PyProof.Rows.LCg
section
variable {prog : Program} {w : World} {A : Around} {E : Value → Shared → Prop} {h₀ : Heap} {L : Addr} {m : Str → Option Value} {env : Env} {s : Shared}
/-- the block of a comprehension behind its first iterator -/
noncomputable def BlockAt (prog : Program) (w : World) (A : Around) (E : Value → Shared → Prop) (env : Env) (ct : Option Expr) (target elt iter : Expr) (scope : Scope) (cl : List (Str × Addr)) (pos : Pos) (RR : Value → Addr → Result → Shared → Prop) (it : Value) (s₂ : Shared) : Prop :=
  wpAny (model prog w) A (newList []) (fun acc s₃ => wpAny (model prog w) A (newFunctionEnv scope env.globals cl [] env.qual none .none (some env)) (fun cenv s₄ =>
    codeAny (model prog w) A (.compStart (.ListComp elt [⟨target, iter, ct.toList, 0⟩] scope pos) 0 it acc { cenv with scope := relabel scope env }) (RR acc cenv.locals) s₄) E s₃) E s₂
/-- what the end of the block asks -/
noncomputable def CompFin (h₀ : Heap) (L : Addr) (m : Str → Option Value) (mD : Value → Str → Option Value) (RR : Value → Addr → Result → Shared → Prop) (s : Shared) (Q : Value → Shared → Prop) : Prop :=
  ∀ D C h tk m' news, Fr h₀ L h m → News h₀ L h news → h.Ns C m' → h₀.get? C = none → C ≠ L → (∀ p ∈ news, p.1 ≠ C) →
    (∀ h' tk', Fr h₀ L h' (mD (.ref D)) → News h₀ L h' news → Q (.ref D) { s with heap := h', toks := tk' }) → RR (.ref D) C (.ok .next) { s with heap := h, toks := tk }
theorem fin_eval {Q : Value → Shared → Prop} : CompFin h₀ L m (fun _ => m) (compPost (model prog w) A E none Q) s Q := by
  intro D C h tk m' news F N hn hC hL off k
  exact ⟨m', hn, fun h'' hs => k h'' tk (F.change hs hL hC) fun p hp => ⟨hs.extBut _ _ (off p hp) (N p hp).1, (N p hp).2⟩⟩
theorem fin_assign {y : Str} {py : Pos} {Q : Value → Shared → Prop} (hy : env.kindOf y = some .local) (hp : (env.scope.kind == .class || (env.scope.kind == .module && env.locals != env.globals)) = false) :
    CompFin h₀ env.locals m (fun v z => if z = y then some v else m z) (compPost (model prog w) A E (some (assign (.Name y py) env)) Q) s (fun _ s' => Q .none s') := by
  intro D C h tk m' news F N hn hC hL off k
  show wpAny _ A (assign (.Name y py) env (.ref D)) _ _ _
  refine wpAny_assign_Name (wpAny_storeName_local hy F.ns (fun h₂ hn₂ hs₂ => ?_) hp)
  have hL₀ : h₀.get? env.locals = none := Heap.get?_none_of_le F.above
  have F₂ : Fr h₀ env.locals h₂ (fun z => if z = y then some (.ref D) else m z) := ⟨hn₂, fun b o e => hs₂.extBut b o (fun q => by rw [q, hL₀] at e; cases e) (F.keep b o e), F.above⟩
  refine ⟨m', hn.sameBut hs₂ hL, fun h'' hs'' => k h'' _ (F₂.change hs'' hL hC) fun p hp => ?_⟩
  have z : h₂.get? p.1 = some p.2 := hs₂.extBut _ _ (N p hp).2.1 (N p hp).1
  exact ⟨hs''.extBut _ _ (off p hp) z, (N p hp).2⟩
theorem comp_eval {ct : Option Expr} {target elt iter : Expr} {scope : Scope} {cl : List (Str × Addr)} {pos : Pos} {Q : Value → Shared → Prop}
    (hclos : closureFor scope env = pure cl) (hkind : scope.kind = .function) (hnames : ∀ y ∈ scope.names, y.2 = .local → scope.names.lookup y.1 = some .local)
    (h : wpAny (model prog w) A (eval iter env) (fun xv s₁ => wpAny (model prog w) A (pyIter xv) (BlockAt prog w A E env ct target elt iter scope cl pos (compPost (model prog w) A E none Q)) E s₁) E s)
    (hs : ∀ x, foldedSetIterable iter env x = pure x := by intro _; rfl) :
    wpAny (model prog w) A (eval (.ListComp elt [⟨target, iter, ct.toList, 0⟩] scope pos) env) Q E s := by
  rw [eval_ListComp]
  exact wpAny_comprehension_free (use := none) rfl hs hclos hkind hnames h
theorem comp_assign {ct : Option Expr} {target elt iter : Expr} {scope : Scope} {cl : List (Str × Addr)} {pos spos py : Pos} {y : Str} {Q : Flow → Shared → Prop}
    (hsw : swapsWith (.ListComp elt [⟨target, iter, ct.toList, 0⟩] scope pos) (some (.Name y py)) spos.line env = pure true)
    (hclos : closureFor scope env = pure cl) (hkind : scope.kind = .function) (hnames : ∀ y ∈ scope.names, y.2 = .local → scope.names.lookup y.1 = some .local)
    (h : wpAny (model prog w) A (eval iter env) (fun xv s₁ => wpAny (model prog w) A (pyIter xv) (BlockAt prog w A E env ct target elt iter scope cl pos (compPost (model prog w) A E (some (assign (.Name y py) env)) (fun _ s' => Q .next s'))) E s₁) E s)
    (hs : ∀ x, foldedSetIterable iter env x = pure x := by intro _; rfl) :
    wpAny (model prog w) A (exec (.Assign [.Name y py] (.ListComp elt [⟨target, iter, ct.toList, 0⟩] scope pos) spos) env) Q E s := by
  rw [exec_Assign_Name_used _ _ _ _ hsw]
  refine wpAny_bind (wpAny_standAt (wpAny_bind ?_))
  show wpAny _ A (do let _ ← comprehension (.ListComp elt [⟨target, iter, ct.toList, 0⟩] scope pos) scope env _ (newList []) false (eval iter env) (some (assign (.Name y py) env))) _ _ s
  refine wpAny_bind (wpAny_mono (wpAny_comprehension_free (use := some (assign (.Name y py) env)) (Q := fun _ s' => Q .next s') rfl hs hclos hkind hnames h) (fun _ s' hq => wpAny_pure (wpAny_pure hq)) fun _ _ e => e)
variable {ct : Option Expr} {target elt iter : Expr} {scope : Scope} {cl : List (Str × Addr)} {pos : Pos} {mD : Value → Str → Option Value} {Q : Value → Shared → Prop} {RR : Value → Addr → Result → Shared → Prop} {names : List Str} {fix add₀ : Led} {J : Nat → List Value → Led → Prop} {B : Nat → List Value → Prop}
theorem block_at {I : Addr} {fp wr : List Addr} {n : Nat} {P Md : Nat → Value → Heap → Prop} {St : Nat → Heap → Prop} {ws : List (Addr × String)} {h₂ : Heap} {tk₂ : Nat}
    (hh : A.handled = none) (W : KTurns prog w A target I fp wr n P Md St) (hself : ∀ (s : Shared) (Q : Value → Shared → Prop) (E : Value → Shared → Prop), St 0 s.heap → Q (.ref I) s → wpAny (model prog w) A (pyIter (.ref I)) Q E s)
    (hsz : n ≤ sizeLine) (hobj : ∀ i h, St i h → ∃ its, Objs ws its ∧ ∀ p ∈ its, h.get? p.1 = some p.2)
    (hws : ∀ b ∈ ws.map (·.1), b < h₂.objs.size ∧ s.heap.objs.size ≤ b) (hwr : ∀ b ∈ wr, b ∈ ws.map (·.1)) (up : ∀ b o, s.heap.get? b = some o → h₂.get? b = some o)
    (hfp : ∀ b ∈ fp, b ∈ ws.map (·.1) ∨ (∃ o, (b, o) ∈ fix) ∨ ∃ o, h₀.get? b = some o)
    (hcell : ∀ y ∈ scope.names, y.2 ≠ .cell) (hkind : scope.kind = .function) (hnd : names.Nodup) (hloc : ∀ x ∈ names, scope.names.lookup x = some .local) (hst : St 0 h₂)
    (F : Fr h₀ L s.heap m) (N : News h₀ L s.heap (fix ++ add₀))
    (hB : ∀ i v h add, i < n → P i v h → News h₀ L h (fix ++ add) → (∀ p ∈ add₀, p ∈ add) → ∃ vals, Bd h target v (names.zip vals) ∧ vals.length = names.length ∧ B i vals)
    (h0 : J 0 [] add₀) (R : CompTurns prog w A h₀ L m env ct elt scope cl s ws names n fix add₀ J B) (hF : CompFin h₀ L m mD RR s Q)
    (fin : ∀ D h tk ys add, J n ys add → (∀ p ∈ add₀, p ∈ add) → Fr h₀ L h (mD (.ref D)) → News h₀ L h ((D, lst ys) :: (fix ++ add)) → (∀ p ∈ fix ++ add, p.1 ≠ D) → (∀ p ∈ fix ++ add₀, p.1 < D) → Q (.ref D) { s with heap := h, toks := tk }) :
    BlockAt prog w A E env ct target elt iter scope cl pos RR (.ref I) { s with heap := h₂, toks := tk₂ } := by
  have fresh₀ : ∀ a, s.heap.objs.size ≤ a → h₀.get? a = none := fun a ha => by
    cases e : h₀.get? a with
    | none => rfl
    | some o' => exact absurd (Heap.lt_size (F.keep a o' e)) (Nat.not_lt.mpr ha)
  have F₂ : Fr h₀ L h₂ m := F.keeps up
  have N₂ : News h₀ L h₂ (fix ++ add₀) := fun p hp => ⟨up _ _ (N p hp).1, (N p hp).2⟩
  refine comp_block (s₂ := { s with heap := h₂, toks := tk₂ }) hh W hself hsz hobj (fun b hb => ⟨(hws b hb).1, fresh₀ b (hws b hb).2, Nat.ne_of_gt (Nat.lt_of_lt_of_le F.ns.lt (hws b hb).2)⟩) hwr (fun b hb => ⟨?_, hfp b hb⟩) (fun p hp hb => ?_) hcell hkind hnd hloc hst F₂ N₂ hB h0 R ?_
  · rcases hfp b hb with h | ⟨o, h⟩ | ⟨o, h⟩
    · exact (hws b h).1
    · exact Heap.lt_size (N₂ (b, o) (List.mem_append_left _ h)).1
    · exact Heap.lt_size (F₂.keep b o h)
  · exact Nat.lt_irrefl _ (Nat.lt_of_lt_of_le (Heap.lt_size (N p hp).1) (hws _ hb).2)
  · intro D C h tk m' ys add F' N' offD hn hC₀ hD₀ hCL hDL hCD offC hsub hlD hJ
    refine hF D C h tk m' _ F' N' hn hC₀ hCL (fun p hp => ?_) fun h' tk' F'' N'' => fin D h' tk' ys add hJ hsub F'' N'' offD hlD
    rcases List.mem_cons.mp hp with rfl | hp
    · exact Ne.symm hCD
    · exact offC p hp
theorem letGo_rangeiter {E : Value → Shared → Prop} {target : Expr} {I : Addr} {x l k : Int} {v : Value} {Q' : Unit → Shared → Prop} {s' : Shared} (hit : IsRangeIter s'.heap I x l k) (h : Q' () s') :
    wpAny (model prog w) A (letOwnedTupleGo target (.ref I) v) Q' E s' := by
  unfold letOwnedTupleGo
  cases target <;> first
    | exact wpAny_pure h
    | (cases v <;> first
        | exact wpAny_pure h
        | (refine wpAny_bind (wpAny_load hit ?_)
           exact wpAny_pure h))
/-- over a list of the ledger -/
theorem comp_list {l : Addr} {lo : Obj} {vs : List Value} {k : Nat} (hh : A.handled = none) (F : Fr h₀ L s.heap m) (N : News h₀ L s.heap (fix ++ add₀)) (hm : (l, lo) ∈ fix) (hc : lo.cls = .type "list") (hd : lo.data = .seq vs.toArray k) (hsz : vs.length ≤ sizeLine)
    (hcell : ∀ y ∈ scope.names, y.2 ≠ .cell) (hkind : scope.kind = .function) (hnd : names.Nodup) (hloc : ∀ x ∈ names, scope.names.lookup x = some .local)
    (hB : ∀ i v h add, vs[i]? = some v → News h₀ L h (fix ++ add) → (∀ p ∈ add₀, p ∈ add) → ∃ vals, Bd h target v (names.zip vals) ∧ vals.length = names.length ∧ B i vals)
    (h0 : J 0 [] add₀) (hF : CompFin h₀ L m mD RR s Q) (R : ∀ I, CompTurns prog w A h₀ L m env ct elt scope cl s [(I, "list_iterator")] names vs.length fix add₀ J B)
    (fin : ∀ D h tk ys add, J vs.length ys add → (∀ p ∈ add₀, p ∈ add) → Fr h₀ L h (mD (.ref D)) → News h₀ L h ((D, lst ys) :: (fix ++ add)) → (∀ p ∈ fix ++ add, p.1 ≠ D) → (∀ p ∈ fix ++ add₀, p.1 < D) → Q (.ref D) { s with heap := h, toks := tk }) :
    wpAny (model prog w) A (pyIter (.ref l)) (BlockAt prog w A E env ct target elt iter scope cl pos RR) E s := by
  have hax := N _ (List.mem_append_left _ hm)
  have hl : s.heap.IsList l vs.toArray := ⟨lo, hax.1, hc, k, hd⟩
  have hlt : l < s.heap.objs.size := Heap.lt_size hax.1
  have hne : l ≠ s.heap.objs.size := Nat.ne_of_lt hlt
  refine wpAny_pyIter_list hl ?_
  have W : Walks prog w A s.heap.objs.size [s.heap.objs.size, l] [s.heap.objs.size] vs.length (fun i v => vs.toArray[i]? = some v) (fun i h => h.IsListIter s.heap.objs.size l i ∧ h.IsList l vs.toArray) := Walks.list (prog := prog) (w := w) hh s.heap.objs.size l hne vs.toArray
  refine block_at (tk₂ := s.toks) (n := vs.length) hh (KTurns.ofWalks W fun i v s Q E st q => letGo_listiter st.1 q) (fun s' Q' E' st q => W.self 0 s' Q' E' st q) hsz (fun i h st => ?_) (ws := [(s.heap.objs.size, "list_iterator")]) ?_ (fun b hb => by simpa using hb) (fun b o e => Heap.get?_push_of_some _ e) (fun b hb => ?_) hcell hkind hnd hloc ?_ F N (fun i v h add hi hp N' hs => hB i v h add (by simpa using hp) N' hs) h0 (R _) hF fin
  · obtain ⟨it, hit, hic, _⟩ := st.1
    exact ⟨[(s.heap.objs.size, it)], ⟨⟨rfl, hic⟩, trivial⟩, fun p hp => by rw [List.mem_singleton.mp hp]; exact hit⟩
  · intro b hb
    have hb' : b = s.heap.objs.size := by simpa using hb
    rw [hb', Heap.size_push]
    exact ⟨Nat.lt_succ_self _, Nat.le_refl _⟩
  · have hb' : b = s.heap.objs.size ∨ b = l := by simpa using hb
    rcases hb' with e | e
    · exact .inl (by simp [e])
    · exact .inr (.inl ⟨lo, e ▸ hm⟩)
  · exact ⟨⟨_, Heap.get?_push_size _ rfl, rfl, rfl⟩, hl.at fun o e => Heap.get?_push_of_some _ e⟩
/-- over a range by ones -/
theorem comp_range {r : Addr} {a b : Int} {t u v : Tok} {n : Nat} (hh : A.handled = none) (F : Fr h₀ L s.heap m) (N : News h₀ L s.heap (fix ++ add₀)) (hr : IsRange s.heap r a b 1 t u v) (hsm : Builtin.Range.small a b 1 = true) (hn : Builtin.Range.rangeSize a b 1 = ((n : Nat) : Int)) (hsz : n ≤ sizeLine)
    (hcell : ∀ y ∈ scope.names, y.2 ≠ .cell) (hkind : scope.kind = .function) (hnd : names.Nodup) (hloc : ∀ x ∈ names, scope.names.lookup x = some .local)
    (hB : ∀ i t, i < n → ∃ vals, (∀ h, Bd h target (.int (a + (i : Int)) t) (names.zip vals)) ∧ vals.length = names.length ∧ B i vals)
    (h0 : J 0 [] add₀) (hF : CompFin h₀ L m mD RR s Q) (R : ∀ I, CompTurns prog w A h₀ L m env ct elt scope cl s [(I, "range_iterator")] names n fix add₀ J B)
    (fin : ∀ D h tk ys add, J n ys add → (∀ p ∈ add₀, p ∈ add) → Fr h₀ L h (mD (.ref D)) → News h₀ L h ((D, lst ys) :: (fix ++ add)) → (∀ p ∈ fix ++ add, p.1 ≠ D) → (∀ p ∈ fix ++ add₀, p.1 < D) → Q (.ref D) { s with heap := h, toks := tk }) :
    wpAny (model prog w) A (pyIter (.ref r)) (BlockAt prog w A E env ct target elt iter scope cl pos RR) E s := by
  refine wpAny_pyIter_range hr hsm ?_
  have W := range_walks (prog := prog) (w := w) (I := s.heap.objs.size) hh a n
  refine block_at (tk₂ := s.toks) (n := n) hh (KTurns.ofWalks W fun i v s Q E st q => ?_) (fun s' Q' E' st q => W.self 0 s' Q' E' st q) hsz (fun i h st => ?_) (ws := [(s.heap.objs.size, "range_iterator")]) ?_ (fun b hb => by simpa using hb) (fun b o e => Heap.get?_push_of_some _ e) (fun b hb => ?_) hcell hkind hnd hloc ?_ F N (fun i v h add hi hp N' hs => ?_) h0 (R _) hF fin
  · exact letGo_rangeiter st q
  · exact ⟨[(s.heap.objs.size, _)], ⟨⟨rfl, rfl⟩, trivial⟩, fun p hp => by rw [List.mem_singleton.mp hp]; exact st⟩
  · intro b hb
    have hb' : b = s.heap.objs.size := by simpa using hb
    rw [hb', Heap.size_push]
    exact ⟨Nat.lt_succ_self _, Nat.le_refl _⟩
  · have hb' : b = s.heap.objs.size := by simpa using hb
    exact .inl (by simp [hb'])
  · show IsRangeIter _ _ _ _ _
    rw [hn]; simpa using Heap.get?_push_size _ rfl
  · obtain ⟨t, rfl⟩ := hp
    obtain ⟨vals, h1, h2, h3⟩ := hB i t hi
    exact ⟨vals, h1 h, h2, h3⟩
end
end
section
open PyProof.Rows.LCg
section
variable {prog : Program} {w : World} {A : Around} {E : Value → Shared → Prop} {h₀ : Heap} {L : Addr} {m : Str → Option Value} {env : Env} {s : Shared}
  {ct : Option Expr} {elt iter : Expr} {elts : List Expr} {kk : Nat} {tp : Pos} {scope : Scope} {cl : List (Str × Addr)} {pos : Pos} {mD : Value → Str → Option Value} {Q : Value → Shared → Prop} {RR : Value → Addr → Result → Shared → Prop} {names : List Str} {fix add₀ : Led} {J : Nat → List Value → Led → Prop} {B : Nat → List Value → Prop}
/-- over enumerate of a list of the ledger -/
theorem comp_enum {l : Addr} {lo : Obj} {vs : List Value} {k : Nat} (hh : A.handled = none) (F : Fr h₀ L s.heap m) (N : News h₀ L s.heap (fix ++ add₀)) (hm : (l, lo) ∈ fix) (hc : lo.cls = .type "list") (hd : lo.data = .seq vs.toArray k) (hsz : vs.length ≤ sizeLine)
    (hcell : ∀ y ∈ scope.names, y.2 ≠ .cell) (hkind : scope.kind = .function) (hnd : names.Nodup) (hloc : ∀ x ∈ names, scope.names.lookup x = some .local)
    (hB : ∀ (i : Nat) (t : Tok) x T h add, vs[i]? = some x → h.IsTuple T #[.int (i : Int) t, x] → News h₀ L h (fix ++ add) → (∀ p ∈ add₀, p ∈ add) → ∃ vals, Bd h (.Tuple elts kk tp) (.ref T) (names.zip vals) ∧ vals.length = names.length ∧ B i vals)
    (h0 : J 0 [] add₀) (hF : CompFin h₀ L m mD RR s Q) (R : ∀ I, CompTurns prog w A h₀ L m env ct elt scope cl s [(I + 1, "enumerate"), (I, "list_iterator")] names vs.length fix add₀ J B)
    (fin : ∀ D h tk ys add, J vs.length ys add → (∀ p ∈ add₀, p ∈ add) → Fr h₀ L h (mD (.ref D)) → News h₀ L h ((D, lst ys) :: (fix ++ add)) → (∀ p ∈ fix ++ add, p.1 ≠ D) → (∀ p ∈ fix ++ add₀, p.1 < D) → Q (.ref D) { s with heap := h, toks := tk }) :
    wpAny (model prog w) A (call (.type "enumerate") [.ref l]) (fun xv s₁ => wpAny (model prog w) A (pyIter xv) (BlockAt prog w A E env ct (.Tuple elts kk tp) elt iter scope cl pos RR) E s₁) E s := by
  have hax := N _ (List.mem_append_left _ hm)
  have hl : s.heap.IsList l vs.toArray := ⟨lo, hax.1, hc, k, hd⟩
  have hlt : l < s.heap.objs.size := Heap.lt_size hax.1
  have hne : l ≠ s.heap.objs.size := Nat.ne_of_lt hlt
  refine call_enumerate_list hl fun h' hE hI hsz' hk => ?_
  refine wpAny_pyIter_enum hE ?_
  have W := (WalksT.enumerate (prog := prog) (w := w) hh (s.heap.objs.size + 1) s.heap.objs.size l (Nat.succ_ne_self _) (ktu_ne 1 hlt) hne vs.toArray).toU
  refine block_at (s := s) (tk₂ := s.toks) (h₂ := h') (n := vs.length) hh (KTurns.ofWalksU (elts := elts) (k := kk) (pos := tp) (n := vs.length) (by simpa only [List.size_toArray] using W)) (fun s' Q' E' st q => W.self 0 s' Q' E' st q) hsz ?_ (ws := [(s.heap.objs.size + 1, "enumerate"), (s.heap.objs.size, "list_iterator")]) ?_ ?_ hk ?_ hcell hkind hnd hloc ?_ F N ?_ h0 (R _) hF fin
  · rintro i h ⟨⟨old, he⟩, ⟨oi, hoi, hic, _⟩, _⟩
    exact ⟨[(s.heap.objs.size + 1, _), (s.heap.objs.size, oi)], ⟨⟨rfl, rfl⟩, ⟨rfl, hic⟩, trivial⟩, List.forall_mem_cons.mpr ⟨he, List.forall_mem_cons.mpr ⟨hoi, List.forall_mem_nil _⟩⟩⟩
  · intro b hb
    have hb' : b = s.heap.objs.size + 1 ∨ b = s.heap.objs.size := by simpa using hb
    rw [hsz']
    rcases hb' with rfl | rfl
    · exact ⟨Nat.lt_succ_self _, Nat.le_succ _⟩
    · exact ⟨Nat.lt_succ_of_lt (Nat.lt_succ_self _), Nat.le_refl _⟩
  · intro b hb
    simpa using hb
  · intro b hb
    have hb' : b = s.heap.objs.size + 1 ∨ b = s.heap.objs.size ∨ b = l := by simpa using hb
    rcases hb' with rfl | rfl | rfl
    · exact .inl (by simp)
    · exact .inl (by simp)
    · exact .inr (.inl ⟨lo, hm⟩)
  · exact ⟨⟨.none, hE⟩, hI, hl.at fun o e => hk l o e⟩
  · rintro i v h add hi ⟨T, vals, rfl, ⟨t, x, hx, rfl⟩, hT⟩ N' hs
    exact hB i t x T h add (by simpa using hx) hT N' hs
/-- over zip of two lists of the ledger -/
theorem comp_zip {l1 l2 : Addr} {lo1 lo2 : Obj} {xs ys : List Value} {k1 k2 n : Nat} (hh : A.handled = none) (F : Fr h₀ L s.heap m) (N : News h₀ L s.heap (fix ++ add₀)) (hm1 : (l1, lo1) ∈ fix) (hc1 : lo1.cls = .type "list") (hd1 : lo1.data = .seq xs.toArray k1) (hm2 : (l2, lo2) ∈ fix) (hc2 : lo2.cls = .type "list") (hd2 : lo2.data = .seq ys.toArray k2) (hnx : min xs.length ys.length = n) (hsz : n ≤ sizeLine)
    (hcell : ∀ y ∈ scope.names, y.2 ≠ .cell) (hkind : scope.kind = .function) (hnd : names.Nodup) (hloc : ∀ x ∈ names, scope.names.lookup x = some .local)
    (hB : ∀ (i : Nat) x y T h add, xs[i]? = some x → ys[i]? = some y → h.IsTuple T #[x, y] → News h₀ L h (fix ++ add) → (∀ p ∈ add₀, p ∈ add) → ∃ vals, Bd h (.Tuple elts kk tp) (.ref T) (names.zip vals) ∧ vals.length = names.length ∧ B i vals)
    (h0 : J 0 [] add₀) (hF : CompFin h₀ L m mD RR s Q) (R : ∀ I, CompTurns prog w A h₀ L m env ct elt scope cl s [(I + 4, "zip"), (I + 2, "tuple"), (I + 3, "tuple"), (I, "list_iterator"), (I + 1, "list_iterator")] names n fix add₀ J B)
    (fin : ∀ D h tk zs add, J n zs add → (∀ p ∈ add₀, p ∈ add) → Fr h₀ L h (mD (.ref D)) → News h₀ L h ((D, lst zs) :: (fix ++ add)) → (∀ p ∈ fix ++ add, p.1 ≠ D) → (∀ p ∈ fix ++ add₀, p.1 < D) → Q (.ref D) { s with heap := h, toks := tk }) :
    wpAny (model prog w) A (call (.type "zip") [.ref l1, .ref l2]) (fun xv s₁ => wpAny (model prog w) A (pyIter xv) (BlockAt prog w A E env ct (.Tuple elts kk tp) elt iter scope cl pos RR) E s₁) E s := by
  have hax1 := N _ (List.mem_append_left _ hm1)
  have hax2 := N _ (List.mem_append_left _ hm2)
  have hl1 : s.heap.IsList l1 xs.toArray := ⟨lo1, hax1.1, hc1, k1, hd1⟩
  have hl2 : s.heap.IsList l2 ys.toArray := ⟨lo2, hax2.1, hc2, k2, hd2⟩
  have hlt1 : l1 < s.heap.objs.size := Heap.lt_size hax1.1
  have hlt2 : l2 < s.heap.objs.size := Heap.lt_size hax2.1
  have D := ktu_apart s.heap.objs.size _ _ hlt1 hlt2
  refine call_zip_2 hl1 hl2 fun h' hz hTI hTO hi1 hi2 hsz' hk => ?_
  refine wpAny_pyIter_zip hz ?_
  have W := (WalksT.zip2 (prog := prog) (w := w) hh _ _ _ _ _ _ _ D xs.toArray ys.toArray).toU
  rw [show min xs.toArray.size ys.toArray.size = n from by rw [List.size_toArray, List.size_toArray, hnx]] at W
  refine block_at (s := s) (tk₂ := s.toks) (h₂ := h') (n := n) hh (KTurns.ofWalksU (elts := elts) (k := kk) (pos := tp) W) (fun s' Q' E' st q => W.self 0 s' Q' E' st q) hsz ?_ (ws := [(s.heap.objs.size + 4, "zip"), (s.heap.objs.size + 2, "tuple"), (s.heap.objs.size + 3, "tuple"), (s.heap.objs.size, "list_iterator"), (s.heap.objs.size + 1, "list_iterator")]) ?_ ?_ hk ?_ hcell hkind hnd hloc ?_ F N ?_ h0 (R _) hF fin
  · rintro i h ⟨hz, hTI, ⟨a, b, hTO⟩, ⟨o1, ho1, hc1, _⟩, ⟨o2, ho2, hc2, _⟩, _⟩
    exact ⟨[(s.heap.objs.size + 4, _), (s.heap.objs.size + 2, _), (s.heap.objs.size + 3, _), (s.heap.objs.size, o1), (s.heap.objs.size + 1, o2)], ⟨⟨rfl, rfl⟩, ⟨rfl, rfl⟩, ⟨rfl, rfl⟩, ⟨rfl, hc1⟩, ⟨rfl, hc2⟩, trivial⟩,
      List.forall_mem_cons.mpr ⟨hz, List.forall_mem_cons.mpr ⟨hTI, List.forall_mem_cons.mpr ⟨hTO, List.forall_mem_cons.mpr ⟨ho1, List.forall_mem_cons.mpr ⟨ho2, List.forall_mem_nil _⟩⟩⟩⟩⟩⟩
  · intro b hb
    have hb' : b = s.heap.objs.size + 4 ∨ b = s.heap.objs.size + 2 ∨ b = s.heap.objs.size + 3 ∨ b = s.heap.objs.size ∨ b = s.heap.objs.size + 1 := by simpa using hb
    rw [hsz']
    rcases hb' with rfl | rfl | rfl | rfl | rfl
    · exact ⟨Nat.add_lt_add_left (by decide) _, Nat.le_add_right _ _⟩
    · exact ⟨Nat.add_lt_add_left (by decide) _, Nat.le_add_right _ _⟩
    · exact ⟨Nat.add_lt_add_left (by decide) _, Nat.le_add_right _ _⟩
    · exact ⟨Nat.lt_add_of_pos_right (by decide), Nat.le_refl _⟩
    · exact ⟨Nat.add_lt_add_left (by decide) _, Nat.le_add_right _ _⟩
  · intro b hb
    have hb' : b = s.heap.objs.size + 4 ∨ b = s.heap.objs.size + 3 ∨ b = s.heap.objs.size ∨ b = s.heap.objs.size + 1 := by simpa using hb
    rcases hb' with rfl | rfl | rfl | rfl <;> simp
  · intro b hb
    have hb' : b = s.heap.objs.size + 4 ∨ b = s.heap.objs.size + 2 ∨ b = s.heap.objs.size + 3 ∨ b = s.heap.objs.size ∨ b = s.heap.objs.size + 1 ∨ b = l1 ∨ b = l2 := by simpa using hb
    rcases hb' with rfl | rfl | rfl | rfl | rfl | rfl | rfl
    · exact .inl (by simp)
    · exact .inl (by simp)
    · exact .inl (by simp)
    · exact .inl (by simp)
    · exact .inl (by simp)
    · exact .inr (.inl ⟨lo1, hm1⟩)
    · exact .inr (.inl ⟨lo2, hm2⟩)
  · exact ⟨hz, hTI, ⟨_, _, hTO⟩, hi1, hi2, hl1.at fun o e => hk l1 o e, hl2.at fun o e => hk l2 o e⟩
  · rintro i v h add hi ⟨T, vals, rfl, ⟨x, y, hx, hy, rfl⟩, hT⟩ N' hs
    exact hB i x y T h add (by simpa using hx) (by simpa using hy) hT N' hs
end
end
section
open PyProof.V PySem.Spec
section
variable {prog : Program} {w : World} {A : Around} {E : Value → Shared → Prop} {s : Shared} {h₀ : Heap} {L l : Addr} {m : Str → Option Value} {news : Led} {vs : List Value} {n : Nat} {Q : Value → Shared → Prop}
/-- len of a list of the ledger -/
theorem len_any (N : News h₀ L s.heap news) (hm : (l, W.listOf vs.toArray n) ∈ news) (hlen : vs.length ≤ 200)
    (h : Q (.int (vs.length : Int) (s.toks + 1)) { s with toks := s.toks + 1 + 1 }) : wpAny (model prog w) A (call (.builtin "len") [.ref l]) Q E s := by
  refine len_list (PySem.IsL.isList (n := n) (N _ hm).1) (by rw [List.size_toArray]; omega) ?_
  rw [List.size_toArray]
  exact h
/-- an item of a list of the ledger -/
theorem item_any {value slice : Expr} {i : Nat} {v : Value} {ki : Int} {u : Tok} (N : News h₀ L s.heap news) (hm : (l, W.listOf vs.toArray n) ∈ news) (hi : ki = (i : Int)) (hk : vs[i]? = some v) (hlen : vs.length ≤ 200) (h : Q v s)
    (hs : subscripted slice false (.ref l) (.int ki u) = operate [.ref l, .int ki u] (getItem (.ref l) (.int ki u)) := by with_unfolding_all rfl) (hg : ∀ r, letTemporaryGo value (.ref l) r = pure () := by intro _; with_unfolding_all rfl) :
    wpAny (model prog w) A (subscriptTail value slice (.ref l) (.int ki u)) Q E s := by
  have hlt : i < vs.length := (List.getElem?_eq_some_iff.mp hk).1
  refine item_listL (l := vs) (PySem.IsL.isList (n := n) (N _ hm).1) (by omega) (by omega) ?_ h hs hg
  rw [hi, Int.toNat_natCast, hk]
theorem pick_from (vs : List Value) (k : Nat) : (slicePick vs.toArray (some (k : Int)) none none).toList = vs.drop k := by
  have e : sliceBounds (some (k : Int)) none none vs.toArray.size = (((min k vs.toArray.size : Nat) : Int), ((vs.toArray.size : Nat) : Int), 1) := by
    simp only [sliceBounds, Option.getD_none, show (1 : Int) > 0 by decide, if_true, if_neg (show ¬ ((k : Int) < 0) by omega)]
    congr 1
    omega
  rw [kmk_pick_nat _ e]
  show (vs.drop (min k vs.toArray.size)).take (vs.toArray.size - min k vs.toArray.size) = _
  rw [List.size_toArray, kmk_drop_min, List.take_of_length_le (by rw [List.length_drop]; omega)]
theorem pick_upto (vs : List Value) (k : Nat) : (slicePick vs.toArray none (some (k : Int)) none).toList = vs.take k := by
  have e : sliceBounds none (some (k : Int)) none vs.toArray.size = (((0 : Nat) : Int), ((min k vs.toArray.size : Nat) : Int), 1) := by
    simp only [sliceBounds, Option.getD_none, show (1 : Int) > 0 by decide, if_true, if_neg (show ¬ ((k : Int) < 0) by omega)]
    congr 1
    congr 1
    omega
  rw [kmk_pick_nat _ e]
  show (vs.drop 0).take (min k vs.toArray.size - 0) = _
  rw [List.drop_zero, Nat.sub_zero, List.size_toArray, kmk_take_min]
end
theorem range_size (n : Nat) : Builtin.Range.rangeSize 0 (n : Int) 1 = ((n : Nat) : Int) := by
  unfold Builtin.Range.rangeSize
  rw [if_pos (by decide)]
  split
  · rw [Int.ediv_one]; omega
  · omega
theorem range_small {n : Nat} (h : n ≤ 200) : Builtin.Range.small 0 (n : Int) 1 = true := by
  unfold Builtin.Range.small
  rw [range_size]
  simp [Builtin.Range.rangeFitsLong]
  omega
section
variable {prog : Program} {w : World} {A : Around} {E : Value → Shared → Prop} {s : Shared} {h₀ : Heap} {L a a' : Addr} {news : Led} {xs ys : List Value} {ka kb : Nat} {ds es : List Dat} {x : Value} {d : Dat} {Q : Value → Shared → Prop} {n₁ n₂ : Led}
open Classical in
theorem notIn_dat {b : Bool} (hb : d ∈ ds ↔ b = true) (N : News h₀ L s.heap news) (ma : (a, W.listOf xs.toArray ka) ∈ news) (Da : DatAll n₁ xs ds) (sa : ∀ p ∈ n₁, p ∈ news) (Dx : DatIn n₂ x d) (sx : ∀ p ∈ n₂, p ∈ news) (ha : ∀ d ∈ ds, kqdOk 8 d = true) (hd : kqdOk 8 d = true) (hu : A.units + 64 < cLine)
    (h : Q (.bool (!b)) s) : wpAny (model prog w) A (compareOp .NotIn x (.ref a)) Q E s := by
  refine kqd_notIn N ma rfl rfl Da sa Dx sx ha hd hu ?_
  cases b with
  | true => rw [decide_eq_true (hb.mpr rfl)]; exact h
  | false => rw [decide_eq_false (fun q => Bool.noConfusion (hb.mp q))]; exact h
open Classical in
theorem ne_dat {b : Bool} (hb : ds = es ↔ b = true) (N : News h₀ L s.heap news) (ma : (a, W.listOf xs.toArray ka) ∈ news) (Da : DatAll n₁ xs ds) (sa : ∀ p ∈ n₁, p ∈ news) (mb : (a', W.listOf ys.toArray kb) ∈ news) (Db : DatAll n₂ ys es) (sb : ∀ p ∈ n₂, p ∈ news)
    (ha : ∀ d ∈ ds, kqdOk 8 d = true) (hb' : ∀ d ∈ es, kqdOk 8 d = true) (hu : A.units + 64 < cLine) (h : Q (.bool (!b)) s) : wpAny (model prog w) A (compareOp .NotEq (.ref a) (.ref a')) Q E s := by
  refine kqd_ne N ma rfl rfl Da sa mb rfl rfl Db sb ha hb' hu ?_
  cases b with
  | true => rw [decide_eq_true (hb.mpr rfl)]; exact h
  | false => rw [decide_eq_false (fun q => Bool.noConfusion (hb.mp q))]; exact h
end
section
variable {prog : Program} {w : World} {A : Around} {E : Value → Shared → Prop} {s : Shared} {h₀ : Heap} {L T : Addr} {m : Str → Option Value} {news : Led} {a b c : Value} {n : Nat} {u : Tok} {Q : Value → Shared → Prop}
/-- t[1:] of a tuple of three -/
theorem slice_tup1 {value slice : Expr} (F : Fr h₀ L s.heap m) (N : News h₀ L s.heap news) (hm : (T, ({ cls := .type "tuple", data := .seq #[a, b, c] n } : Obj)) ∈ news)
    (h : ∀ D h', Fr h₀ L h' m → News h₀ L h' ((D, ({ cls := .type "tuple", data := .seq #[b, c] } : Obj)) :: news) → (∀ p ∈ news, p.1 < D) → Q (.ref D) { s with heap := h' })
    (hs : subscripted slice false (.ref T) (.ref s.heap.objs.size) = operate [.ref s.heap.objs.size, .ref T] (getItem (.ref T) (.ref s.heap.objs.size)) := by with_unfolding_all rfl)
    (hg : ∀ r, letTemporaryGo value (.ref T) r = pure () := by intro _; with_unfolding_all rfl) :
    wpAny (model prog w) A (subscriptTail value slice (.ref T) (.ref s.heap.objs.size)) Q E { s with heap := s.heap.push { cls := .type "slice", data := .fields #[.int 1 u, .none, .none] } } :=
  slice_tuple_from (a := 1) (items := #[a, b, c]) F N ⟨_, (N _ hm).1, rfl, n, rfl⟩ (Nat.le_refl _) (show 1 ≤ 3 from by decide) (fun h' F' N' => h _ h' F' N' fun p hp => Nat.lt_succ_of_lt (Heap.lt_size (N p hp).1)) hs hg (show 3 ≤ sizeLine from by rw [sizeLine_eq]; decide)
end
section
variable {prog : Program} {w : World} {A : Around} {E : Value → Shared → Prop} {s : Shared} {h₀ : Heap} {L a b : Addr} {m : Str → Option Value} {news : Led} {vs ws : List Value} {n k : Nat} {Q : Value → Shared → Prop}
/-- two lists of the ledger joined -/
theorem add_any (F : Fr h₀ L s.heap m) (N : News h₀ L s.heap news) (h1 : (a, W.listOf vs.toArray n) ∈ news) (h2 : (b, W.listOf ws.toArray k) ∈ news) (hl : vs.length + ws.length ≤ 400)
    (h : ∀ D h', Fr h₀ L h' m → News h₀ L h' ((D, W.listOf (vs ++ ws).toArray 0) :: news) → (∀ p ∈ news, p.1 < D) → Q (.ref D) { s with heap := h' }) : wpAny (model prog w) A (binaryOp .Add (.ref a) (.ref b)) Q E s :=
  add_lists F N (PySem.IsL.isList (n := n) (N _ h1).1) (PySem.IsL.isList (n := k) (N _ h2).1) (fun h' F' N' => h _ h' F' N' fun p hp => Heap.lt_size (N p hp).1) (by rw [sizeLine_eq]; omega)
end
/-- what of a ledger is a list or a tuple -/
noncomputable def isSeq (p : Addr × Obj) : Bool := match p.2.data with
  | .seq _ _ => true
  | _ => false
theorem seqs_filter (led : Led) : Seqs (led.filter isSeq) := by
  intro p hp
  have h := (List.mem_filter.mp hp).2
  unfold isSeq at h
  split at h
  · exact ⟨_, _, by assumption⟩
  · cases h
theorem mem_filter_seq {led : Led} {p : Addr × Obj} (h : p ∈ led) (hs : isSeq p = true) : p ∈ led.filter isSeq := List.mem_filter.mpr ⟨h, hs⟩
mutual
theorem DatIn.seq {led : Led} : ∀ {v : Value} {d : Dat}, DatIn led v d → DatIn (led.filter isSeq) v d
  | _, _, .none => .none
  | _, _, .bool b => .bool b
  | _, _, .int i t => .int i t
  | _, _, .str x t => .str x t
  | _, _, .bytes b t => .bytes b t
  | _, _, .tuple h r => .tuple (mem_filter_seq h rfl) (DatAll.seq r)
  | _, _, .list h r => .list (mem_filter_seq h rfl) (DatAll.seq r)
theorem DatAll.seq {led : Led} : ∀ {vs : List Value} {ds : List Dat}, DatAll led vs ds → DatAll (led.filter isSeq) vs ds
  | _, _, .nil => .nil
  | _, _, .cons h r => .cons (DatIn.seq h) (DatAll.seq r)
end
theorem Seqs.app {a b : Led} (h : Seqs a) (k : Seqs b) : Seqs (a ++ b) := fun p hp => (List.mem_append.mp hp).elim (h p) (k p)
theorem Seqs.cons {l : Addr} {its : Array Value} {n : Nat} {P : Led} (h : Seqs P) : Seqs ((l, W.listOf its n) :: P) := List.forall_mem_cons.mpr ⟨⟨_, _, rfl⟩, h⟩
/-- no cell stands in the ledger -/
noncomputable def NoCell (led : Led) : Prop := ∀ p ∈ led, ∀ v, p.2.data ≠ .cell v
theorem NoCell.off {h₀ h : Heap} {L : Addr} {all P : Led} {c : Addr} {oc : Obj} {v : Option Value} (hs : NoCell P) (N : News h₀ L h all) (hP : ∀ p ∈ P, p ∈ all) (hc : (c, oc) ∈ all) (hd : oc.data = .cell v) : ∀ p ∈ P, @Ne Nat p.1 c := fun p hp e => by
  have q1 := (N _ (hP p hp)).1
  have q2 := (N _ hc).1
  rw [show p.1 = c from e, show h.get? c = some oc from q2] at q1
  exact hs p hp v ((congrArg Obj.data (Option.some.inj q1)).symm.trans hd)
theorem Seqs.noCell {P : Led} (h : Seqs P) : NoCell P := fun p hp v e => by
  obtain ⟨its, n, h1⟩ := h p hp
  rw [h1] at e
  cases e
theorem NoCell.cons {a : Addr} {o : Obj} {P : Led} (h : NoCell P) (ho : ∀ v, o.data ≠ .cell v) : NoCell ((a, o) :: P) := List.forall_mem_cons.mpr ⟨ho, h⟩
noncomputable def atN : Led → Nat → Led
  | [], _ => []
  | p :: _, 0 => [p]
  | _ :: r, k + 1 => atN r k
noncomputable def pickN : List Nat → Led → Led
  | [], _ => []
  | k :: ks, l => atN l k ++ pickN ks l
theorem atN_sub : ∀ {l : Led} {k : Nat}, ∀ p ∈ atN l k, p ∈ l
  | [], _, _, h => nomatch h
  | _ :: _, 0, _, h => by rw [List.mem_singleton.mp h]; exact List.mem_cons_self
  | _ :: _, _ + 1, p, h => List.mem_cons_of_mem _ (atN_sub p h)
theorem pickN_sub : ∀ {ks : List Nat} {l : Led}, ∀ p ∈ pickN ks l, p ∈ l
  | [], _, _, h => nomatch h
  | _ :: _, _, p, h => (List.mem_append.mp h).elim (atN_sub p) (pickN_sub p)
/-- the ledger laid anew: some of what stood, some of what is new, a tail of what is new -/
theorem led_re {h₀ h : Heap} {L : Addr} {new old sel P : Led} (N : News h₀ L h (new ++ old)) (hs : ∀ p ∈ sel, p ∈ new) (hP : ∀ p ∈ P, p ∈ new) (is js : List Nat) : News h₀ L h (pickN is old ++ (pickN js sel ++ P)) :=
  News.sub N fun p hp => (List.mem_append.mp hp).elim (fun h => List.mem_append_right _ (pickN_sub p h)) fun h => List.mem_append_left _ ((List.mem_append.mp h).elim (fun h => hs p (pickN_sub p h)) (hP p))
theorem filter_sub {new : Led} : ∀ p ∈ new.filter isSeq, p ∈ new := fun _ hp => (List.mem_filter.mp hp).1
/-- the tail of a ledger -/
theorem News.tail {h₀ h : Heap} {L : Addr} {all P : Led} (_N : News h₀ L h all) (k : Nat) (e : all.drop k = P) : ∀ p ∈ P, p ∈ all := fun _ hp => List.mem_of_mem_drop (i := k) (e ▸ hp)
/-- the ledger laid anew: some of its head, some of what its tail holds, the tail -/
theorem News.mix {h₀ h : Heap} {L : Addr} {all P es : Led} (N : News h₀ L h all) (k : Nat) (e : all.drop k = P) (is : List Nat) (hs : ∀ p ∈ es, p ∈ P) (js : List Nat) : News h₀ L h (pickN is all ++ (pickN js es ++ P)) :=
  have up : ∀ p ∈ P, p ∈ all := fun _ hp => List.mem_of_mem_drop (i := k) (e ▸ hp)
  News.sub N fun p hp => (List.mem_append.mp hp).elim (pickN_sub p) fun h => (List.mem_append.mp h).elim (fun h => up p (hs p (pickN_sub p h))) (up p)
theorem tail_of {all P : Led} (k : Nat) (e : all.drop k = P) : ∀ p ∈ P, p ∈ all := fun _ hp => List.mem_of_mem_drop (i := k) (e ▸ hp)
theorem picks_in {es P : Led} (hs : ∀ p ∈ es, p ∈ P) (js : List Nat) : ∀ p ∈ pickN js es, p ∈ P := fun p hp => hs p (pickN_sub p hp)
theorem picks_up {es P all : Led} (k : Nat) (e : all.drop k = P) (hs : ∀ p ∈ es, p ∈ P) (js : List Nat) : ∀ p ∈ pickN js es, p ∈ all := fun p hp => tail_of k e p (hs p (pickN_sub p hp))
/-- what of a ledger is no cell -/
noncomputable def noCellB (p : Addr × Obj) : Bool := match p.2.data with
  | .cell _ => false
  | _ => true
theorem noCell_filter (led : Led) : NoCell (led.filter noCellB) := by
  intro p hp v e
  have h := (List.mem_filter.mp hp).2
  unfold noCellB at h
  rw [e] at h
  cases h
theorem nocell_sub {new : Led} : ∀ p ∈ new.filter noCellB, p ∈ new := fun _ hp => (List.mem_filter.mp hp).1
theorem mem_nocell {led : Led} {p : Addr × Obj} (h : p ∈ led) (hs : noCellB p = true) : p ∈ led.filter noCellB := List.mem_filter.mpr ⟨h, hs⟩
theorem NoCell.mem {P led : Led} (hq : NoCell P) (hs : ∀ p ∈ P, p ∈ led) : ∀ p ∈ P, p ∈ led.filter noCellB := fun p hp => mem_nocell (hs p hp) (by
  unfold noCellB
  split
  · exact absurd (by assumption) (hq p hp _)
  · rfl)
mutual
theorem DatIn.nc {led : Led} : ∀ {v : Value} {d : Dat}, DatIn led v d → DatIn (led.filter noCellB) v d
  | _, _, .none => .none
  | _, _, .bool b => .bool b
  | _, _, .int i t => .int i t
  | _, _, .str x t => .str x t
  | _, _, .bytes b t => .bytes b t
  | _, _, .tuple h r => .tuple (mem_nocell h rfl) (DatAll.nc r)
  | _, _, .list h r => .list (mem_nocell h rfl) (DatAll.nc r)
theorem DatAll.nc {led : Led} : ∀ {vs : List Value} {ds : List Dat}, DatAll led vs ds → DatAll (led.filter noCellB) vs ds
  | _, _, .nil => .nil
  | _, _, .cons h r => .cons (DatIn.nc h) (DatAll.nc r)
end
end
end
end
end
end
theorem sweepP20a {M : Model} {A : Around} {env : Env} {Q : Flow → Shared → Prop} {E : Value → Shared → Prop} {s : Shared} (h : wpAny M A (execs [] env) Q E s) : wpAny M A (execs [] env) Q E s := by w_top off; first | (walk1; fail "swept") | exact h
section
open PyProof.V PySem.Spec
local macro_rules | `(tactic| k_all) => `(tactic| k_extra "mk1")
local macro_rules | `(tactic| k_all) => `(tactic| walk_at "mine k4")
section
open PyProof.V PySem.Spec
local macro_rules | `(tactic| walk_at "LeaveK") => `(tactic| k_extra "mv6")
local macro_rules | `(tactic| walk_at "LeaveK") => `(tactic| k_extra "mv1")
section
open PyProof.V PySem.Spec
local macro_rules | `(tactic| walk_at "call builtin:sorted") => `(tactic| refine Paused.intro ?_)
section
open PyProof.V PySem.Spec
local macro_rules | `(tactic| walk_at "eval ListComp") => `(tactic| refine Paused.intro ?_)
section
open PyProof.V PySem.Spec
local macro_rules | `(tactic| walk_at "subscriptTail Name Slice ref ref") => `(tactic| refine Paused.intro ?_)
section
open PyProof.V PySem.Spec
local macro_rules | `(tactic| walk_at "call builtin:len") => `(tactic| k_extra "mv33")
section
open PyProof.V PySem.Spec
local macro_rules | `(tactic| walk_at "subscriptTail") => `(tactic| k_extra "mv34")
theorem sweepP20 {M : Model} {A : Around} {env : Env} {Q : Flow → Shared → Prop} {E : Value → Shared → Prop} {s : Shared} (h : wpAny M A (execs [] env) Q E s) : wpAny M A (execs [] env) Q E s := by w_top off; first | (walk1; fail "swept") | exact h
section
open PyProof.V PySem.Spec
noncomputable abbrev rowD (e : Ev) : Dat := .tuple [.int (e.2.2 : Int), .str e.1, .int e.2.1]
noncomputable abbrev lastD (e : Ev) : Dat := .tuple [.str e.1, .int e.2.1]
noncomputable abbrev evG (es : List Ev) (i : Nat) : Ev := es.getD i (Str.empty, 0, 0)
noncomputable def sel (rs : List Ev) (k : Nat) : Option Ev := match rs[k]? with
  | some e => if Txt.lower e.1 ∈ (rs.drop (k + 1)).map (fun r => Txt.lower r.1) then none else some e
  | none => none
noncomputable def lastOf (rs : List Ev) : List Ev := (List.range rs.length).filterMap (sel rs)
noncomputable def EvVals (es : List Ev) (i : Nat) (vals : List Value) : Prop := ∃ e t1 t2 t3, es[i]? = some e ∧ vals = [Value.str e.1 t1, Value.int e.2.1 t2, Value.int (e.2.2 : Int) t3]
noncomputable def laterD (rs : List Ev) (k : Nat) : Dat := .list ((rs.drop (k + 1)).map fun r => .str (Txt.lower r.1))
theorem row_at {pool : Led} {vs : List Value} {rs : List Ev} {i : Nat} {v : Value} (hd : DatAll pool vs (rs.map rowD)) (hv : vs[i]? = some v) :
    ∃ e T t1 t2 t3 n, rs[i]? = some e ∧ v = .ref T ∧ (T, ({ cls := .type "tuple", data := .seq #[Value.int (e.2.2 : Int) t1, Value.str e.1 t2, Value.int e.2.1 t3] n } : Obj)) ∈ pool := by
  have hi : i < (rs.map rowD).length := by rw [← hd.length]; exact (List.getElem?_eq_some_iff.mp hv).1
  obtain ⟨v', hv', hD⟩ := hd.get hi
  rw [hv] at hv'
  cases hv'
  rw [List.getElem_map] at hD
  have hi' : i < rs.length := by rw [List.length_map] at hi; exact hi
  obtain ⟨T, x, y, z, n, rfl, hm, h1, h2, h3⟩ := in_three9 hD
  obtain ⟨t1, rfl⟩ := in_int9 h1
  obtain ⟨t2, rfl⟩ := in_str9 h2
  obtain ⟨t3, rfl⟩ := in_int9 h3
  exact ⟨rs[i], T, t1, t2, t3, n, List.getElem?_eq_getElem hi', rfl, hm⟩
noncomputable def RowVals (es : List Ev) (i : Nat) (vals : List Value) : Prop := ∃ e t1 t2 t3, es[i]? = some e ∧ vals = [Value.int (e.2.2 : Int) t1, Value.str e.1 t2, Value.int e.2.1 t3]
theorem evG_at {es : List Ev} {i : Nat} {e : Ev} (h : es[i]? = some e) : evG es i = e := by unfold evG; rw [List.getD_eq_getElem?_getD, h]; rfl
theorem range_evG (es : List Ev) : (List.range es.length).map (evG es) = es := by
  refine List.ext_getElem (by simp) fun i h1 h2 => ?_
  simp only [List.getElem_map, List.getElem_range]
  unfold evG
  rw [List.getD_eq_getElem?_getD, List.getElem?_eq_getElem h2]
  rfl
theorem range_mapG (es : List Ev) (f : Ev → Dat) : (List.range es.length).map (fun j => f (evG es j)) = es.map f := by
  have q := congrArg (List.map f) (range_evG es)
  rw [List.map_map] at q
  exact q
theorem str_mem (x : Str) (rs : List Ev) : (Dat.str x ∈ rs.map fun r => Dat.str (Txt.lower r.1)) ↔ x ∈ rs.map fun r => Txt.lower r.1 := by
  constructor
  · intro h
    obtain ⟨r, hr, e⟩ := List.mem_map.mp h
    exact List.mem_map.mpr ⟨r, hr, Dat.str.inj e⟩
  · intro h
    obtain ⟨r, hr, e⟩ := List.mem_map.mp h
    exact List.mem_map.mpr ⟨r, hr, congrArg Dat.str e⟩
theorem name_ok : ∀ nm ∈ menu, PyData.strOk nm = true ∧ PyData.strOk (Txt.lower nm) = true := by decide +kernel
theorem sel_yes {rs : List Ev} {i : Nat} {e : Ev} (h : rs[i]? = some e) (hn : ¬ Txt.lower e.1 ∈ (rs.drop (i + 1)).map fun r => Txt.lower r.1) : sel rs i = some e := by unfold sel; rw [h]; exact if_neg hn
theorem sel_no {rs : List Ev} {i : Nat} {e : Ev} (h : rs[i]? = some e) (hn : Txt.lower e.1 ∈ (rs.drop (i + 1)).map fun r => Txt.lower r.1) : sel rs i = none := by unfold sel; rw [h]; exact if_pos hn
theorem keys_of {led : Led} : ∀ {rs : List Ev} {ys : List Value}, DatAll led ys (rs.map rowD) → KeysAt led ys (rs.map (·.2.2))
  | [], ys, h => by obtain rfl := all_nil9 h; trivial
  | r :: rs, ys, h => by
    obtain ⟨y, ys, rfl, h1, h2⟩ := all_cons9 h
    obtain ⟨T, vs, n, rfl, hm, h3⟩ := in_tup9 h1
    obtain ⟨v, ws, rfl, h4, h3⟩ := all_cons9 h3
    obtain ⟨t, rfl⟩ := in_int9 h4
    exact ⟨⟨_, _, _, _, rfl, hm⟩, keys_of h2⟩
theorem dat_pick {led : Led} {ys : List Value} {rs : List Ev} (h : DatAll led ys (rs.map rowD)) : ∀ (p : List Nat), (∀ i ∈ p, i < rs.length) → DatAll led (p.map fun i => ys.getD i Value.none) ((p.map (evG rs)).map rowD)
  | [], _ => .nil
  | i :: p, hp => by
    have hi := hp i (.head _)
    obtain ⟨v, hv, hd⟩ := h.get (k := i) (by rw [List.length_map]; exact hi)
    rw [List.getElem_map] at hd
    refine .cons ?_ (dat_pick h p fun j hj => hp j (.tail _ hj))
    have e1 : ys.getD i Value.none = v := by rw [List.getD_eq_getElem?_getD, hv]; rfl
    have e2 : evG rs i = rs[i] := by unfold evG; rw [List.getD_eq_getElem?_getD, List.getElem?_eq_getElem hi]; rfl
    dsimp only
    rw [e1, e2]
    exact hd
namespace E_last_spec
noncomputable def epsP (q : (World × Addr × (List Value) × Nat × (List Ev) × (List Nat) × Led) × Cx) : Prop := (fun (w : World) (l : Addr) (vs : List Value) (n : Nat) (es : List Ev) (p : List Nat) (pool : Led) (cx9 : Cx) => ∀ (hseq : NoCell pool) (hd : DatAll pool vs (es.map evD)) (hok : ∀ e ∈ es, EvOk e) (h2 : 2 ≤ es.length) (hlen : es.length ≤ 20) (hp : evalT (ltH (es.map (·.2.2))) (kas_sort es.length) = some p.toArray) (hpb : ∀ i ∈ p, i < es.length) (hpl : p.length = es.length), CtrAt w 329 [.ref l] [] 8 100 ((l, W.listOf vs.toArray n) :: pool) (Listed ((l, W.listOf vs.toArray n) :: pool) ((lastOf (p.map (evG es))).map lastD))  cx9) q.1.1 q.1.2.1 q.1.2.2.1 q.1.2.2.2.1 q.1.2.2.2.2.1 q.1.2.2.2.2.2.1 q.1.2.2.2.2.2.2 q.2
theorem epsN : Nonempty ((World × Addr × (List Value) × Nat × (List Ev) × (List Nat) × Led) × Cx) := ⟨((Classical.choice neWorld, default, default, default, default, default, default), Classical.choice neCx)⟩
@[irreducible] noncomputable def epsC : (World × Addr × (List Value) × Nat × (List Ev) × (List Nat) × Led) × Cx := worst epsN epsP
@[irreducible] noncomputable def w : World := epsC.1.1
@[irreducible] noncomputable def l : Addr := epsC.1.2.1
@[irreducible] noncomputable def vs : List Value := epsC.1.2.2.1
@[irreducible] noncomputable def n : Nat := epsC.1.2.2.2.1
@[irreducible] noncomputable def es : List Ev := epsC.1.2.2.2.2.1
@[irreducible] noncomputable def p : List Nat := epsC.1.2.2.2.2.2.1
@[irreducible] noncomputable def pool : Led := epsC.1.2.2.2.2.2.2
noncomputable def ent : (TT9 : Heap → Addr → Heap → Nat → Prop) ×' (∀ (hseq : NoCell pool) (hd : DatAll pool vs (es.map evD)) (hok : ∀ e ∈ es, EvOk e) (h2 : 2 ≤ es.length) (hlen : es.length ≤ 20) (hp : evalT (ltH (es.map (·.2.2))) (kas_sort es.length) = some p.toArray) (hpb : ∀ i ∈ p, i < es.length) (hpl : p.length = es.length), Hid (∀ x0 x1 x2 x3, TT9 x0 x1 x2 x3) → CtrAt w 329 [.ref l] [] 8 100 ((l, W.listOf vs.toArray n) :: pool) (Listed ((l, W.listOf vs.toArray n) :: pool) ((lastOf (p.map (evG es))).map lastD))  epsC.2) :=
  ⟨_, fun hseq hd hok h2 hlen hp hpb hpl H => by
    intro cxB cxF cxX cxN cxT cxk cxd cxu cxr
    ((refine wpAny_call ?_; k_dflt (refine' code_cells ?z34k1 ?z34k2 ?z34k3 ?z34k4 ?z34k5 ?z34kA ?z34kF ?z34kK ?z34k6 ?z34k7 ?z34k8 ?z34k9 ?z34kB ?z34kD ?_ ?z34c2 ?z34c3 ?z34c4; (case z34kA => exact rfl); (case z34kF => exact rfl); (case z34kK => assumption); (case z34k1 => k_asm); (case z34k2 => k_asm); (case z34k3 => k_asm); (case z34k4 => k_asm); (case z34k5 => k_asm); (case z34k6 => k_is); (case z34k7 => k_is); (case z34k8 => ktr_room); (case z34k9 => first | exact BindsTo.of_eq rfl | exact binds_K (by k_in) rfl (by k_is) rfl rfl rfl | fail "mine cells: no rule for these arguments"); (case z34kB => exact rfl); (case z34kD => decide +kernel); (case z34c2 => exact rfl); (case z34c3 => exact rfl); (case z34c4 => exact rfl); k_whole)))
    exact H.out⟩
theorem entN : Nonempty (Heap × Addr × Heap × Nat) := ⟨(default, 0, default, 0)⟩
noncomputable def entP (q : Heap × Addr × Heap × Nat) : Prop := ent.1 q.1 q.2.1 q.2.2.1 q.2.2.2
@[irreducible] noncomputable def entC : Heap × Addr × Heap × Nat := worst entN entP
@[irreducible] noncomputable def gE : Heap := entC.1
@[irreducible] noncomputable def LE : Addr := entC.2.1
@[irreducible] noncomputable def hE : Heap := entC.2.2.1
@[irreducible] noncomputable def tkE : Nat := entC.2.2.2
theorem walk (hseq : NoCell pool) (hd : DatAll pool vs (es.map evD)) (hok : ∀ e ∈ es, EvOk e) (h2 : 2 ≤ es.length) (hlen : es.length ≤ 20) (hp : evalT (ltH (es.map (·.2.2))) (kas_sort es.length) = some p.toArray) (hpb : ∀ i ∈ p, i < es.length) (hpl : p.length = es.length) : CtrTo w 329 [.ref l] [] 8 100 ((l, W.listOf vs.toArray n) :: pool) (Listed ((l, W.listOf vs.toArray n) :: pool) ((lastOf (p.map (evG es))).map lastD))  epsC.2 (ent.1 gE LE hE tkE) := by
  have hvl : vs.length = es.length := by rw [hd.length, List.length_map]
  (intro cxB cxF cxX cxN cxT cxk cxd cxu cxr); walk_at "mine cells1"
  k_steps
  unfold Paused
  refine comp_eval (ct := none) (by with_unfolding_all rfl) (by rfl) (by decide) ?_
  k_steps
  rename_i o1 o2 _ _ N1
  refine comp_list (names := [Str.ofString "name", Str.ofString "held", Str.ofString "hour"]) (fix := [(_, o1), (_, o2), (l, W.listOf vs.toArray n)]) (add₀ := pool) (J := fun i ys add => DatAll add ys ((List.range i).map fun k => rowD (evG es k)) ∧ NoCell add) (B := EvVals es) (by exact rfl) (by assumption) N1 (by k_mem) rfl rfl (by rw [sizeLine_eq]; omega) (by decide) (by rfl) (by decide) (by decide) ?hB ⟨.nil, hseq⟩ fin_eval (fun I => ?step) ?fin
  case hB =>
    intro i v h add hv N' hs
    obtain ⟨e, T, t1, t2, t3, n9, he, rfl, hm⟩ := ev_at hd hv
    exact ⟨_, .three ⟨_, (N' _ (List.mem_append_right _ (hs _ hm))).1, rfl, n9, rfl⟩ .name .name .name, rfl, e, t1, t2, t3, he, rfl⟩
  case step =>
    rintro i ys add vals oC C D m₂ h9 tk9 E9 hi hJ hs ⟨e, t1, t2, t3, he, rfl⟩ hC hx F9
    refine AllObj.cons (fun o9 c9 => AllObj.nil (fun N9 off9 => ?_))
    simp only [List.zip_cons_cons, List.zip_nil_right, List.forall_mem_cons] at hx
    obtain ⟨hx1, hx2, hx3, _⟩ := hx
    dsimp only [List.cons_append, List.nil_append] at N9 hx1 hx2 hx3
    show wpAny _ _ (eval _ _) (CEnd _ _ _ _ _ _ _ _) _ _
    k_steps
    refine' CEnd.mk (by assumption) (by assumption) [(_, _)] ?sub ?off ⟨?dat, ?sq⟩
    case sub => (repeat' (first | (refine List.forall_mem_cons.mpr ⟨by k_mem, ?_⟩) | exact List.forall_mem_nil _ | (intro p9 hp9; (repeat (first | exact hp9 | refine List.mem_cons_of_mem _ ?_)))))
    case off => (repeat' (first | exact List.forall_mem_nil _ | k_ne | refine List.forall_mem_cons.mpr ⟨?_, ?_⟩))
    case sq => exact List.forall_mem_cons.mpr ⟨fun _ => nofun, hJ.2⟩
    case dat =>
      refine dat_snoc hJ.1 (fun p hp => List.mem_cons_of_mem _ hp) ?_
      rw [show evG es i = e from by unfold evG; rw [List.getD_eq_getElem?_getD, he]; rfl]
      exact DatIn.tuple (vs := [_, _, _]) (n := 0) (List.Mem.head _) (.cons (.int _ _) (.cons (.str _ _) (.cons (.int _ _) .nil)))
  case fin =>
    rintro D h9 tk9 ys add ⟨hJ, hsq⟩ hs F9 N9 offD ltD
    dsimp only [List.cons_append, List.nil_append] at N9 ltD
    have hI2 := ltD
    k_lt hI2
    k_steps
    unfold Paused
    have hR : DatAll add ys (es.map rowD) := by
      have q : (List.range vs.length).map (fun k => rowD (evG es k)) = ((List.range es.length).map (evG es)).map rowD := by rw [List.map_map, hvl]; rfl
      rw [q, range_evG] at hJ
      exact hJ
    have hyl : ys.length = es.length := by rw [hR.length, List.length_map]
    refine sorted_keys (ks := es.map (·.2.2)) (p := p) (by assumption) N9 (PySem.IsL.isList (n := ys.length) (N9 _ (List.Mem.head _)).1) ((keys_of hR).mono fun p hp => by (repeat (first | exact hp | refine List.mem_cons_of_mem _ ?_))) (by omega) (by omega) (by rw [hyl]; exact hp) ?_
    intro D2 c2 h2' F2 N2 lt2
    have hR2 := dat_pick hR p hpb
    generalize (p.map fun i => ys.getD i Value.none) = ys2 at hR2 N2
    clear hR hJ
    have hrl : (p.map (evG es)).length = es.length := by rw [List.length_map, hpl]
    have hrok : ∀ e ∈ p.map (evG es), EvOk e := fun e he => by
      obtain ⟨i, hi, rfl⟩ := List.mem_map.mp he
      have hi2 := hpb i hi
      refine hok _ ?_
      unfold evG
      rw [List.getD_eq_getElem?_getD, List.getElem?_eq_getElem hi2]
      exact List.getElem_mem hi2
    generalize hrs : p.map (evG es) = rs at hR2 hrl hrok
    have hy2l : ys2.length = rs.length := by rw [hR2.length, List.length_map]
    have hy2s : ys2.length ≤ 20 := by omega
    have hI3 := lt2
    k_lt hI3
    have c1 := NoCell.off hsq N2 (by intro p hp; (repeat (first | exact hp | refine List.mem_cons_of_mem _ ?_))) (c := _) (oc := o1) (by k_mem) (by assumption)
    have c2 := NoCell.off hsq N2 (by intro p hp; (repeat (first | exact hp | refine List.mem_cons_of_mem _ ?_))) (c := _) (oc := o2) (by k_mem) (by assumption)
    k_steps
    unfold Paused
    refine comp_eval (ct := none) (by with_unfolding_all rfl) (by rfl) (by decide) ?_
    k_steps
    rename_i _ oR _ _ dR _ _ _ _ _ hIR FR NR upR
    refine comp_range (n := ys2.length) (names := [Str.ofString "k"]) (fix := [(D2, W.listOf ys2.toArray _), (D, LCg.lst ys), (_, o1), (_, oR), (l, W.listOf vs.toArray n)]) (add₀ := add) (J := fun i zs add' => DatAll add' zs ((List.range i).map (laterD rs)) ∧ NoCell add') (B := fun i vals => ∃ t, vals = [Value.int (i : Int) t]) (by exact rfl) FR NR hIR ?small ?size (by rw [sizeLine_eq]; omega) (by decide) (by rfl) (by decide) (by decide) ?hB2 ⟨.nil, hsq⟩ fin_eval (fun I => ?step2) ?fin2
    case small => exact range_small (by omega)
    case size => exact range_size _
    case hB2 => exact fun i t hi => ⟨[.int (i : Int) t], fun h => by rw [Int.zero_add]; exact .name, rfl, t, rfl⟩
    case step2 =>
      rintro i zs add3 vals oC C D3 m₂ h8 tk8 E8 hi8 hJ8 hs8 ⟨t8, rfl⟩ hC8 hx8 F8
      refine AllObj.cons (fun o8 c8 => AllObj.nil (fun N8 off8 => ?_))
      simp only [List.zip_cons_cons, List.zip_nil_right, List.forall_mem_cons] at hx8
      obtain ⟨hx8, _⟩ := hx8
      dsimp only [List.cons_append, List.nil_append] at N8 hx8
      show wpAny _ _ (eval _ _) (CEnd _ _ _ _ _ _ _ _) _ _
      clear NR FR upR
      k_steps
      unfold Paused
      refine comp_eval (ct := none) (by with_unfolding_all rfl) (by rfl) (by decide) ?_
      k_steps
      unfold Paused
      refine' kmk_slice_lit (hi := none) (zs := ys2.drop (i + 1)) ?sF ?sN ?sl ?sp ?sq ?se ?_ ?ss ?st ?sz
      case sF => k_asm
      case sN => k_asm
      case sl => exact PySem.IsL.isList ((by assumption : News _ _ _ _) (D2, _) (by k_mem)).1
      case sp => exact IsPart.int _ _
      case sq => exact IsPart.none
      case se => exact pick_from ys2 (i + 1)
      case ss => with_unfolding_all rfl
      case st => (intro _; with_unfolding_all rfl)
      case sz => rw [List.size_toArray, sizeLine_eq]; omega
      intro D4 h4 F4 N4 l4
      refine comp_list (names := [Str.ofString "hour", Str.ofString "name", Str.ofString "held"]) (fix := [(D4, W.listOf (ys2.drop (i + 1)).toArray 0), (C, oC), (D3, LCg.lst zs), (I, o8), (D2, W.listOf ys2.toArray _), (D, LCg.lst ys), (_, o1), (_, oR), (l, W.listOf vs.toArray n)]) (add₀ := add3) (J := fun j ws add4 => DatAll add4 ws ((List.range j).map fun j => Dat.str (Txt.lower (evG (rs.drop (i + 1)) j).1)) ∧ add4 = add3) (B := RowVals (rs.drop (i + 1))) (by exact rfl) F4 N4 (by k_mem) rfl rfl (by rw [sizeLine_eq, List.length_drop]; omega) (by decide) (by rfl) (by decide) (by decide) ?hB3 ⟨.nil, rfl⟩ fin_eval (fun J => ?step3) ?fin3
      case hB3 =>
        intro j v h add4 hv N' hs
        rw [List.getElem?_drop] at hv
        obtain ⟨e, T, t1, t2, t3, n9, he, rfl, hm⟩ := row_at hR2 hv
        refine ⟨_, .three ⟨_, (N' _ (List.mem_append_right _ (hs _ (hs8 _ hm)))).1, rfl, n9, rfl⟩ .name .name .name, rfl, e, t1, t2, t3, ?_, rfl⟩
        rw [List.getElem?_drop, he]
      case step3 =>
        rintro j ws add4 vals oC4 C4 D6 m₃ h6 tk6 E6 hi6 ⟨hJ6, rfl⟩ hs6 ⟨e, t1, t2, t3, he, rfl⟩ hC6 hx6 F6
        refine AllObj.cons (fun o6 c6 => AllObj.nil (fun N6 off6 => ?_))
        simp only [List.zip_cons_cons, List.zip_nil_right, List.forall_mem_cons] at hx6
        obtain ⟨hx6, hx7, hx9, _⟩ := hx6
        dsimp only [List.cons_append, List.nil_append] at N6 hx6 hx7 hx9
        show wpAny _ _ (eval _ _) (CEnd _ _ _ _ _ _ _ _) _ _
        have hel := (name_plain _ (hrok e (List.mem_of_getElem? (by rw [List.getElem?_drop] at he; exact he))).1).2
        clear N4 F4
        k_steps
        refine' CEnd.mk (by assumption) N6 [] (fun p hp => hp) (List.forall_mem_nil _) ⟨?dat, rfl⟩
        exact dat_snoc hJ6 (fun _ h => h) (by rw [evG_at he]; exact .str _ _)
      case fin3 =>
        rintro D5 h5 tk5 ws add4 ⟨hJ5, rfl⟩ hs5 F5 N5 off5 lt5
        dsimp only [List.cons_append, List.nil_append] at N5 lt5
        k_lt lt5
        refine' CEnd.mk F5 N5 [(D5, LCg.lst ws)] ?sub3 ?off3 ⟨?dat3, ?sq3⟩
        case sub3 => (repeat' (first | (refine List.forall_mem_cons.mpr ⟨by k_mem, ?_⟩) | exact List.forall_mem_nil _ | (intro p9 hp9; (repeat (first | exact hp9 | refine List.mem_cons_of_mem _ ?_)))))
        case off3 => (repeat' (first | exact List.forall_mem_nil _ | k_ne | refine List.forall_mem_cons.mpr ⟨?_, ?_⟩))
        case sq3 => exact List.forall_mem_cons.mpr ⟨fun _ => nofun, hJ8.2⟩
        case dat3 =>
          refine dat_snoc hJ8.1 (fun p hp => List.mem_cons_of_mem _ hp) ?_
          rw [List.length_drop, hy2l, ← List.length_drop, range_mapG (rs.drop (i + 1)) (fun r => Dat.str (Txt.lower r.1))] at hJ5
          exact DatIn.list (n := ws.length) (List.Mem.head _) (hJ5.mono fun p hp => List.mem_cons_of_mem _ hp)
    case fin2 =>
      rintro D7 h7 tk7 zs add7 ⟨hJ7, hsq7⟩ hs7 F7 N7 off7 lt7
      dsimp only [List.cons_append, List.nil_append] at N7 lt7
      k_lt lt7
      clear NR FR upR c1 c2
      have c1 := NoCell.off hsq7 N7 (by intro p hp; (repeat (first | exact hp | refine List.mem_cons_of_mem _ ?_))) (c := _) (oc := o1) (by k_mem) (by assumption)
      have c2 := NoCell.off hsq7 N7 (by intro p hp; (repeat (first | exact hp | refine List.mem_cons_of_mem _ ?_))) (c := _) (oc := oR) (by k_mem) (by assumption)
      k_steps
      unfold Paused
      refine comp_eval (ct := some _) (by with_unfolding_all rfl) (by rfl) (by decide) ?_
      k_steps
      rename_i _ oZ _ _ dZ _ _ _ _ _ hIR FR NR upR
      refine comp_range (n := ys2.length) (names := [Str.ofString "k"]) (fix := [(D7, LCg.lst zs), (D2, W.listOf ys2.toArray _), (D, LCg.lst ys), (_, oZ), (_, oR), (l, W.listOf vs.toArray n)]) (add₀ := add7) (J := fun i us add' => DatAll add' us (((List.range i).filterMap (sel rs)).map lastD) ∧ NoCell add') (B := fun i vals => ∃ t, vals = [Value.int (i : Int) t]) (by exact rfl) FR NR hIR (range_small (by omega)) (range_size _) (by rw [sizeLine_eq]; omega) (by decide) (by rfl) (by decide) (by decide) ?hB4 ⟨.nil, hsq7⟩ fin_eval (fun I => ?step4) ?fin4
      case hB4 => exact fun i t hi => ⟨[.int (i : Int) t], fun h => by rw [Int.zero_add]; exact .name, rfl, t, rfl⟩
      case step4 =>
        rintro i us add3 vals oC C D3 m₂ h8 tk8 E8 hi8 hJ8 hs8 ⟨t8, rfl⟩ hC8 hx8 F8
        refine AllObj.cons (fun o8 c8 => AllObj.nil (fun N8 off8 => ?_))
        simp only [List.zip_cons_cons, List.zip_nil_right, List.forall_mem_cons] at hx8
        obtain ⟨hx8, _⟩ := hx8
        dsimp only [List.cons_append, List.nil_append] at N8 hx8
        show wpAny _ _ (isTrue _ _ _) _ _ _
        have hzl : zs.length = ys2.length := by rw [hJ7.length, List.length_map, List.length_range]
        obtain ⟨v5, hv5⟩ : ∃ v, ys2[i]? = some v := ⟨_, List.getElem?_eq_getElem hi8⟩
        obtain ⟨e, T, t1, t2, t3, n9, he, rfl, hm⟩ := row_at hR2 hv5
        obtain ⟨v6, hv6, hd6⟩ := hJ7.get (k := i) (by rw [List.length_map, List.length_range]; exact hi8)
        rw [List.getElem_map, List.getElem_range] at hd6
        unfold laterD at hd6
        obtain ⟨a6, ws6, n6, rfl, hm6, hd7⟩ : ∃ a ws n, v6 = .ref a ∧ (a, W.listOf (List.toArray ws) n) ∈ add7 ∧ DatAll add7 ws ((rs.drop (i + 1)).map fun r => Dat.str (Txt.lower r.1)) := by
          cases hd6 with
          | list h1 h2 => exact ⟨_, _, _, rfl, h1, h2⟩
        have hm8 := hs8 _ (hs7 _ hm)
        have hm9 := hs8 _ hm6
        have N7 := News.more (News.more N8 (p := (T, _)) (by (repeat (first | exact hm8 | refine List.mem_cons_of_mem _ ?_)))) (p := (a6, W.listOf (List.toArray ws6) n6)) (by (repeat (first | exact hm9 | refine List.mem_cons_of_mem _ ?_)))
        have hel := (name_plain _ (hrok e (List.mem_of_getElem? he)).1).2
        clear NR FR upR N8
        k_steps
        have hok8 : ∀ d ∈ (rs.drop (i + 1)).map fun r => Dat.str (Txt.lower r.1), kqdOk 8 d = true := fun d hd => by
          obtain ⟨r, hr, rfl⟩ := List.mem_map.mp hd
          exact (name_ok _ (hrok r (List.mem_of_mem_drop hr)).1).2
        have hsub8 : ∀ p ∈ add7, p ∈ add3 := hs8
        have hq := str_mem (Txt.lower e.1) (rs.drop (i + 1))
        by_cases hin : Txt.lower e.1 ∈ (rs.drop (i + 1)).map fun r => Txt.lower r.1
        · refine notIn_dat (b := true) ⟨fun _ => rfl, fun _ => hq.mpr hin⟩ (by k_asm) (by k_mem) hd7 (fun p hp => by have hp9 := hsub8 p hp; (repeat (first | exact hp9 | refine List.mem_cons_of_mem _ ?_))) (DatIn.str _ _ : DatIn [] _ _) (List.forall_mem_nil _) hok8 (name_ok _ (hrok e (List.mem_of_getElem? he)).1).2 (by ke_room) ?_
          k_steps
          refine' CEnd.mk (by assumption) (by assumption) [] ?s5 (List.forall_mem_nil _) ⟨?d5, ?q5⟩
          case s5 => (repeat' (first | (refine List.forall_mem_cons.mpr ⟨by k_mem, ?_⟩) | exact List.forall_mem_nil _ | (intro p9 hp9; (repeat (first | exact hp9 | refine List.mem_cons_of_mem _ ?_)))))
          case q5 => exact hJ8.2
          case d5 => exact dat_no hJ8.1 (fun _ h => h) (sel_no he hin)
        · refine notIn_dat (b := false) ⟨fun q => absurd (hq.mp q) hin, fun q => Bool.noConfusion q⟩ (by k_asm) (by k_mem) hd7 (fun p hp => by have hp9 := hsub8 p hp; (repeat (first | exact hp9 | refine List.mem_cons_of_mem _ ?_))) (DatIn.str _ _ : DatIn [] _ _) (List.forall_mem_nil _) hok8 (name_ok _ (hrok e (List.mem_of_getElem? he)).1).2 (by ke_room) ?_
          k_steps
          unfold Paused
          refine' slice_tup1 ?tF ?tN ?tm ?_ ?ts ?tg
          case tF => k_asm
          case tN => k_asm
          case tm => k_mem
          case ts => with_unfolding_all rfl
          case tg => (intro _; with_unfolding_all rfl)
          intro D9 h9 F9 N9 l9
          k_lt l9
          refine' CEnd.mk F9 N9 [(D9, _)] ?s5 ?o5 ⟨?d5, ?q5⟩
          case s5 => (repeat' (first | (refine List.forall_mem_cons.mpr ⟨by k_mem, ?_⟩) | exact List.forall_mem_nil _ | (intro p9 hp9; (repeat (first | exact hp9 | refine List.mem_cons_of_mem _ ?_)))))
          case o5 => (repeat' (first | exact List.forall_mem_nil _ | k_ne | refine List.forall_mem_cons.mpr ⟨?_, ?_⟩))
          case q5 => exact List.forall_mem_cons.mpr ⟨fun _ => nofun, hJ8.2⟩
          case d5 => exact dat_yes hJ8.1 (fun p hp => List.mem_cons_of_mem _ hp) (sel_yes he hin) (DatIn.tuple (vs := [_, _]) (n := 0) (List.Mem.head _) (.cons (.str _ _) (.cons (.int _ _) .nil)))
      case fin4 =>
        rintro D9 h9 tk9 us add9 ⟨hJ9, hsq9⟩ hs9 F9 N9 off9 lt9
        dsimp only [List.cons_append, List.nil_append] at N9 lt9
        k_lt lt9
        clear NR FR upR
        k_steps
        rw [hrs]
        refine ⟨D9, us, us.length, rfl, ?d9, ?s9⟩
        case d9 =>
          unfold lastOf
          rw [← hy2l]
          exact hJ9.mono fun p hp => by (repeat (first | exact hp | refine List.mem_cons_of_mem _ ?_))
        case s9 => exact List.forall_mem_cons.mpr ⟨by k_mem, List.forall_mem_cons.mpr ⟨by k_mem, fun p hp => by have hp9 := hs9 _ (hs7 _ (hs _ hp)); (repeat (first | exact hp9 | refine List.mem_cons_of_mem _ ?_))⟩⟩
theorem walk2 (hseq : NoCell pool) (hd : DatAll pool vs (es.map evD)) (hok : ∀ e ∈ es, EvOk e) (h2 : 2 ≤ es.length) (hlen : es.length ≤ 20) (hp : evalT (ltH (es.map (·.2.2))) (kas_sort es.length) = some p.toArray) (hpb : ∀ i ∈ p, i < es.length) (hpl : p.length = es.length) : CtrTo w 329 [.ref l] [] 8 100 ((l, W.listOf vs.toArray n) :: pool) (Listed ((l, W.listOf vs.toArray n) :: pool) ((lastOf (p.map (evG es))).map lastD))  epsC.2 (entP entC) := by with_unfolding_all exact walk hseq hd hok h2 hlen hp hpb hpl
theorem fin : epsP epsC := by
  with_unfolding_all exact fun hseq hd hok h2 hlen hp hpb hpl cxB cxF cxX cxN cxT cxk cxd cxu cxr => ent.2 hseq hd hok h2 hlen hp hpb hpl ⟨fun x0 x1 x2 x3 => of_worst (P := entP) (h := entN) (by with_unfolding_all exact walk2 hseq hd hok h2 hlen hp hpb hpl cxB cxF cxX cxN cxT cxk cxd cxu cxr) (x0, x1, x2, x3)⟩ cxB cxF cxX cxN cxT cxk cxd cxu cxr
end E_last_spec
theorem last_spec (w : World) (l : Addr) (vs : List Value) (n : Nat) (es : List Ev) (p : List Nat) (pool : Led) (hseq : NoCell pool) (hd : DatAll pool vs (es.map evD)) (hok : ∀ e ∈ es, EvOk e) (h2 : 2 ≤ es.length) (hlen : es.length ≤ 20) (hp : evalT (ltH (es.map (·.2.2))) (kas_sort es.length) = some p.toArray) (hpb : ∀ i ∈ p, i < es.length) (hpl : p.length = es.length) : Ctr w 329 [.ref l] [] 8 100 ((l, W.listOf vs.toArray n) :: pool) (Listed ((l, W.listOf vs.toArray n) :: pool) ((lastOf (p.map (evG es))).map lastD)) := ctr_of fun c9 => of_worst (P := E_last_spec.epsP) (h := E_last_spec.epsN) (by with_unfolding_all exact E_last_spec.fin) ((w, l, vs, n, es, p, pool), c9) hseq hd hok h2 hlen hp hpb hpl
end
section
open PyProof.V PySem.Spec
noncomputable abbrev lawE (L fa : Addr) (cd : Value) : Env := envOfC (Str.ofString "law") fLaw.1.2.2 L fa cd
theorem CtrF.ctr {w : World} {f : Addr} {pos : List Value} {kw : List (Str × Value)} {d u : Nat} {cells : Led} {Post : Led → Value → Prop} (S : CtrF w f pos kw d u cells Post) : Ctr w f pos kw d u cells Post :=
  fun _ _ _ _ _ _ _ _ _ _ _ _ _ _ _ _ _ _ _ _ _ _ B F X N T hk hd hu ret => S _ _ _ _ _ _ _ _ _ _ _ _ _ _ _ _ _ _ _ _ _ _ B F X N T hk hd hu fun v h' tk news' F' N' k _ hp => ret v h' tk news' F' N' k hp
noncomputable def lineOf (es : List Ev) (k : Nat) : Str := lineStr (evG es k).2.1 ((evG es k).2.2 : Int) (k : Int)
noncomputable abbrev row10k (es : List Ev) (k : Nat) : Str := Txt.slice (lineOf es k) none (some 10)
noncomputable abbrev hoursOf (es : List Ev) : List Nat := es.map (·.2.2)
noncomputable abbrev tabOf (es : List Ev) : Nat → Str × Str := byHour (hoursOf es) (logPairs es)
/-- between the statements of the law: places A, lists V, counts C, cells O, hashes K9 -/
structure At (w : World) (h₀ : Heap) (L : Addr) (es : List Ev) (pp : List Nat) (A : Nat → Addr) (V : Nat → List Value) (C : Nat → Nat) (O : Nat → Obj) (K9 : Nat → Tok) (m : Str → Option Value) (P : Led) (h : Heap) : Prop where
  F : Fr h₀ L h m
  N : News h₀ L h P
  mQ : m (Str.ofString "popped") = some (.ref (A 12))
  mZ : m (Str.ofString "last") = some (.ref (A 8))
  mP : m (Str.ofString "plain") = some (.ref (A 5))
  mL : m (Str.ofString "log") = some (.ref (A 2))
  iN : (L + 1 + 1 + 1 + 1 + 1, O 0) ∈ P
  iT : (L + 1 + 1 + 1 + 1, O 1) ∈ P
  iL : (L + 1 + 1 + 1, O 2) ∈ P
  iE : (L + 1 + 1, O 3) ∈ P
  i0 : (A 0, W.listOf (V 0).toArray (C 0)) ∈ P
  i1 : (A 1, W.listOf (V 1).toArray (C 1)) ∈ P
  i2 : (A 2, instObj 182 (A 3)) ∈ P
  i3 : (A 3, hDict w (K9 1) (A 1)) ∈ P
  i4 : (A 4, W.listOf (V 4).toArray (C 4)) ∈ P
  i5 : (A 5, instObj 182 (A 6)) ∈ P
  i6 : (A 6, hDict w (K9 4) (A 4)) ∈ P
  i7 : (A 7, W.listOf (V 7).toArray (C 7)) ∈ P
  i8 : (A 8, W.listOf (V 8).toArray (C 8)) ∈ P
  i9 : (A 9, W.listOf (V 9).toArray (C 9)) ∈ P
  i10 : (A 10, instObj 182 (A 11)) ∈ P
  i11 : (A 11, hDict w (K9 9) (A 9)) ∈ P
  i12 : (A 12, W.listOf (V 12).toArray (C 12)) ∈ P
  cN : ∃ v, (O 0).data = .cell v
  cT : (O 1).data = .cell (some (.ref (A 10)))
  cL : (O 2).data = .cell (some (.ref (A 7)))
  cE : (O 3).data = .cell (some (.ref (A 0)))
  a1 : Apart3 (A 1) (A 2) (A 3)
  a4 : Apart3 (A 4) (A 5) (A 6)
  a9 : Apart3 (A 9) (A 10) (A 11)
  hE : DatAll P (V 0) (es.map evD)
  hL : DatAll P (V 1) ((logPairs es).map pairD)
  hP : DatAll P (V 4) ((plainPairs es).map pairD)
  hN : DatAll P (V 7) ((List.range es.length).map fun k => Dat.str (lineOf es k))
  hZ : DatAll P (V 8) ((lastOf (pp.map (evG es))).map lastD)
  hT : DatAll P (V 9) ((tabN (tabOf es) es.length).map pairD)
  hQ : DatAll P (V 12) ((List.range es.length).map (popD (tabOf es)))
section
variable {w : World} {h₀ : Heap} {L : Addr} {es : List Ev} {pp : List Nat} {A : Nat → Addr} {V : Nat → List Value} {C : Nat → Nat} {O : Nat → Obj} {K9 : Nat → Tok} {m : Str → Option Value} {P : Led} {h : Heap}
theorem At.up (a : At w h₀ L es pp A V C O K9 m P h) {P' : Led} {h' : Heap} (hs : ∀ p ∈ P, p ∈ P') (F : Fr h₀ L h' m) (N : News h₀ L h' P') : At w h₀ L es pp A V C O K9 m P' h' :=
  { a with F := F, N := N, iN := hs _ a.iN, iT := hs _ a.iT, iL := hs _ a.iL, iE := hs _ a.iE, i0 := hs _ a.i0, i1 := hs _ a.i1, i2 := hs _ a.i2, i3 := hs _ a.i3, i4 := hs _ a.i4, i5 := hs _ a.i5, i6 := hs _ a.i6, i7 := hs _ a.i7, i8 := hs _ a.i8, i9 := hs _ a.i9, i10 := hs _ a.i10, i11 := hs _ a.i11, i12 := hs _ a.i12, hE := a.hE.mono hs, hL := a.hL.mono hs, hP := a.hP.mono hs, hN := a.hN.mono hs, hZ := a.hZ.mono hs, hT := a.hT.mono hs, hQ := a.hQ.mono hs }
theorem At.vE (a : At w h₀ L es pp A V C O K9 m P h) : (V 0).length = es.length := by rw [a.hE.length, List.length_map]
theorem At.vL (a : At w h₀ L es pp A V C O K9 m P h) : (V 1).length = es.length := by rw [a.hL.length, List.length_map]; unfold logPairs; rw [List.length_mapIdx]
theorem At.vP (a : At w h₀ L es pp A V C O K9 m P h) : (V 4).length ≤ es.length := by rw [a.hP.length, List.length_map]; unfold plainPairs; rw [List.length_map, List.length_take]; omega
theorem At.vN (a : At w h₀ L es pp A V C O K9 m P h) : (V 7).length = es.length := by rw [a.hN.length, List.length_map, List.length_range]
theorem At.vQ (a : At w h₀ L es pp A V C O K9 m P h) : (V 12).length = es.length := by rw [a.hQ.length, List.length_map, List.length_range]
theorem At.vT (a : At w h₀ L es pp A V C O K9 m P h) : (V 9).length ≤ es.length := by rw [a.hT.length, List.length_map]; exact tabN_len _ _
end
/-- a ledger without one place -/
noncomputable def offCell (c : Addr) (P : Led) : Led := P.filter fun p => !(decide (@Eq Nat p.1 c))
theorem off_ne {c : Addr} {P : Led} : ∀ p ∈ offCell c P, @Ne Nat p.1 c := fun p hp e => by
  have h := (List.mem_filter.mp hp).2
  rw [decide_eq_true e] at h
  cases h
theorem off_sub9 {c : Addr} {P : Led} : ∀ p ∈ offCell c P, p ∈ P := fun _ hp => (List.mem_filter.mp hp).1
theorem mem_off {c : Addr} {P : Led} {p : Addr × Obj} (h : p ∈ P) (hn : @Ne Nat p.1 c) : p ∈ offCell c P := List.mem_filter.mpr ⟨h, by rw [decide_eq_false hn]; rfl⟩
theorem cell_ne {h₀ h : Heap} {L : Addr} {P : Led} {c : Addr} {oc : Obj} (N : News h₀ L h P) (hc : (c, oc) ∈ P) (hd : ∃ v, oc.data = .cell v) {p : Addr × Obj} (hp : p ∈ P) (ho : ∀ v, p.2.data ≠ .cell v) : @Ne Nat p.1 c := fun e => by
  obtain ⟨v, hv⟩ := hd
  have q1 := (N p hp).1
  have q2 := (N _ hc).1
  rw [show p.1 = c from e, show h.get? c = some oc from q2] at q1
  exact ho v ((congrArg Obj.data (Option.some.inj q1)).symm.trans hv)
mutual
theorem DatIn.offc {c : Addr} {led : Led} (hk : ∀ p ∈ led, (∃ its n, p.2.data = .seq its n) → @Ne Nat p.1 c) : ∀ {v : Value} {d : Dat}, DatIn led v d → DatIn (offCell c led) v d
  | _, _, .none => .none
  | _, _, .bool b => .bool b
  | _, _, .int i t => .int i t
  | _, _, .str x t => .str x t
  | _, _, .bytes b t => .bytes b t
  | _, _, .tuple h r => .tuple (mem_off h (hk _ h ⟨_, _, rfl⟩)) (DatAll.offc hk r)
  | _, _, .list h r => .list (mem_off h (hk _ h ⟨_, _, rfl⟩)) (DatAll.offc hk r)
theorem DatAll.offc {c : Addr} {led : Led} (hk : ∀ p ∈ led, (∃ its n, p.2.data = .seq its n) → @Ne Nat p.1 c) : ∀ {vs : List Value} {ds : List Dat}, DatAll led vs ds → DatAll (offCell c led) vs ds
  | _, _, .nil => .nil
  | _, _, .cons h r => .cons (DatIn.offc hk h) (DatAll.offc hk r)
end
section
variable {w : World} {h₀ : Heap} {L : Addr} {es : List Ev} {pp : List Nat} {A : Nat → Addr} {V : Nat → List Value} {C : Nat → Nat} {O : Nat → Obj} {K9 : Nat → Tok} {m : Str → Option Value} {P : Led} {h : Heap}
theorem At.seqNe (a : At w h₀ L es pp A V C O K9 m P h) : ∀ p ∈ P, (∃ its n, p.2.data = .seq its n) → @Ne Nat p.1 (L + 1 + 1 + 1 + 1 + 1) := fun p hp ⟨its, n, e⟩ => cell_ne a.N a.iN a.cN hp fun v q => by rw [e] at q; cases q
/-- the cell of the loop's name turned -/
theorem At.turn (a : At w h₀ L es pp A V C O K9 m P h) {P' : Led} {h' : Heap} {m' : Str → Option Value} {oN : Obj} (dN : ∃ v, oN.data = .cell v) (hN : (L + 1 + 1 + 1 + 1 + 1, oN) ∈ P') (hs : ∀ p ∈ offCell (L + 1 + 1 + 1 + 1 + 1) P, p ∈ P') (F : Fr h₀ L h' m') (N : News h₀ L h' P')
    (mQ : m' (Str.ofString "popped") = some (.ref (A 12))) (mZ : m' (Str.ofString "last") = some (.ref (A 8))) (mP : m' (Str.ofString "plain") = some (.ref (A 5))) (mL : m' (Str.ofString "log") = some (.ref (A 2))) :
    At w h₀ L es pp A V C (fun i => if i = 0 then oN else O i) K9 m' P' h' :=
  have q : ∀ {p : Addr × Obj}, p ∈ P → (∀ v, p.2.data ≠ .cell v) → p ∈ P' := fun hp ho => hs _ (mem_off hp (cell_ne a.N a.iN a.cN hp ho))
  { F := F, N := N, mQ := mQ, mZ := mZ, mP := mP, mL := mL, iN := hN, iT := hs _ (mem_off a.iT (show @Ne Nat (L + 1 + 1 + 1 + 1) (L + 1 + 1 + 1 + 1 + 1) from by omega)), iL := hs _ (mem_off a.iL (show @Ne Nat (L + 1 + 1 + 1) (L + 1 + 1 + 1 + 1 + 1) from by omega)), iE := hs _ (mem_off a.iE (show @Ne Nat (L + 1 + 1) (L + 1 + 1 + 1 + 1 + 1) from by omega)), i0 := q a.i0 (fun _ => nofun), i1 := q a.i1 (fun _ => nofun), i2 := q a.i2 (fun _ => nofun), i3 := q a.i3 (fun _ => nofun), i4 := q a.i4 (fun _ => nofun), i5 := q a.i5 (fun _ => nofun), i6 := q a.i6 (fun _ => nofun), i7 := q a.i7 (fun _ => nofun), i8 := q a.i8 (fun _ => nofun), i9 := q a.i9 (fun _ => nofun), i10 := q a.i10 (fun _ => nofun), i11 := q a.i11 (fun _ => nofun), i12 := q a.i12 (fun _ => nofun), cN := dN, cT := a.cT, cL := a.cL, cE := a.cE, a1 := a.a1, a4 := a.a4, a9 := a.a9, hE := (DatAll.offc a.seqNe a.hE).mono hs, hL := (DatAll.offc a.seqNe a.hL).mono hs, hP := (DatAll.offc a.seqNe a.hP).mono hs, hN := (DatAll.offc a.seqNe a.hN).mono hs, hZ := (DatAll.offc a.seqNe a.hZ).mono hs, hT := (DatAll.offc a.seqNe a.hT).mono hs, hQ := (DatAll.offc a.seqNe a.hQ).mono hs }
end
theorem in2 {a b : Addr × Obj} {P : Led} (h1 : a ∈ P) (h2 : b ∈ P) : ∀ p ∈ [a, b], p ∈ P := List.forall_mem_cons.mpr ⟨h1, List.forall_mem_cons.mpr ⟨h2, List.forall_mem_nil _⟩⟩
theorem in3 {a b c : Addr × Obj} {P : Led} (h1 : a ∈ P) (h2 : b ∈ P) (h3 : c ∈ P) : ∀ p ∈ [a, b, c], p ∈ P := List.forall_mem_cons.mpr ⟨h1, in2 h2 h3⟩
theorem in4 {a b c d : Addr × Obj} {P : Led} (h1 : a ∈ P) (h2 : b ∈ P) (h3 : c ∈ P) (h4 : d ∈ P) : ∀ p ∈ [a, b, c, d], p ∈ P := List.forall_mem_cons.mpr ⟨h1, in3 h2 h3 h4⟩
theorem News.ahead {h₀ h : Heap} {L : Addr} {P es : Led} (N : News h₀ L h P) (hs : ∀ p ∈ es, p ∈ P) : News h₀ L h (es ++ P) := fun p hp => (List.mem_append.mp hp).elim (fun h => N p (hs p h)) (N p)
theorem str_at {led : Led} {vs : List Value} {n i : Nat} {f : Nat → Str} (hd : DatAll led vs ((List.range n).map fun k => Dat.str (f k))) (hi : i < n) : ∃ t, vs[i]? = some (.str (f i) t) := by
  obtain ⟨v, hv, hD⟩ := hd.get (k := i) (by rw [List.length_map, List.length_range]; exact hi)
  rw [List.getElem_map, List.getElem_range] at hD
  cases hD
  exact ⟨_, hv⟩
/-- what the plain law must give -/
structure Plain9 (es : List Ev) (pp : List Nat) : Prop where
  hlen : es.length ≤ 20
  h2 : 2 ≤ es.length
  hok : ∀ e ∈ es, EvOk e
  hpp : evalT (ltH (hoursOf es)) (kas_sort es.length) = some pp.toArray
  hpb : ∀ i ∈ pp, i < es.length
  hpl : pp.length = es.length
  hnd : (hoursOf es).Nodup
  hhp : heapOk (hoursOf es) = true
  hlg : ∀ (i : Nat) q h, (logPairs es)[i]? = some q → (hoursOf es)[i]? = some h → LogItem q h
  hll : ∀ k, k < es.length → (lineOf es k).length ≤ 100
  hA : (List.range es.length).map (fun k => ((evG es k).1, lineOf es k)) = logPairs es
  hB : (List.range (min 3 es.length)).map (fun k => ((evG es k).1, row10k es k)) = plainPairs es
  hql : ∀ q ∈ logPairs es, q.1.length ≤ 10
  hso : ∀ q ∈ logPairs es, PyData.strOk q.1 = true ∧ PyData.strOk q.2 = true
  hC : (List.range es.length).map (popD (tabOf es)) = pp.map (fun k => Dat.tuple [.int ((evG es k).2.2 : Int), .str (evG es k).1, .str (row10k es k)])
  hD : (lastOf (pp.map (evG es))).map (fun e => (e.1, writtenStr e.2.1)) = tabN (tabOf es) es.length
  hlast : ∀ e ∈ lastOf (pp.map (evG es)), EvOk e
  hget : ∀ e ∈ lastOf (pp.map (evG es)), ∀ nm, Txt.lower nm = Txt.lower e.1 → (gotAll nm (tabN (tabOf es) es.length)).head? = some (e.1, writtenStr e.2.1)
  hqlT : ∀ q ∈ tabN (tabOf es) es.length, q.1.length ≤ 10
  hsoW : ∀ x, 0 ≤ x → x < 65536 → PyData.strOk (writtenStr x) = true
  hsoT : ∀ q ∈ tabN (tabOf es) es.length, PyData.strOk q.1 = true ∧ PyData.strOk q.2 = true
  hsoQ : ∀ k, k < es.length → PyData.strOk (tabOf es k).1 = true ∧ PyData.strOk (tabOf es k).2 = true
  hso2 : ∀ q ∈ plainPairs es, PyData.strOk q.1 = true ∧ PyData.strOk q.2 = true
end
end
end
end
end
end
end
end
end
end
end
end
end
theorem sweepP21a {M : Model} {A : Around} {env : Env} {Q : Flow → Shared → Prop} {E : Value → Shared → Prop} {s : Shared} (h : wpAny M A (execs [] env) Q E s) : wpAny M A (execs [] env) Q E s := by w_top off; first | (walk1; fail "swept") | exact h
section
open PyProof.V PySem.Spec
local macro_rules | `(tactic| k_all) => `(tactic| k_extra "mk1")
local macro_rules | `(tactic| k_all) => `(tactic| walk_at "mine k4")
section
open PyProof.V PySem.Spec
local macro_rules | `(tactic| walk_at "LeaveK") => `(tactic| k_extra "mv6")
local macro_rules | `(tactic| walk_at "LeaveK") => `(tactic| k_extra "mv1")
section
open PyProof.V PySem.Spec
local macro_rules | `(tactic| walk_at "UnrEndW") => `(tactic| k_extra "mv7")
local macro_rules | `(tactic| walk_at "UnrEndW") => `(tactic| refine Paused.intro ?_)
section
open PyProof.V PySem.Spec
local macro_rules | `(tactic| walk_at "binaryOp Add ref ref") => `(tactic| refine Paused.intro ?_)
section
open PyProof.V PySem.Spec
local macro_rules | `(tactic| walk_at "call builtin:len") => `(tactic| refine Paused.intro ?_)
local macro_rules | `(tactic| walk_at "call builtin:len") => `(tactic| k_extra "mv33")
section
open PyProof.V PySem.Spec
local macro_rules | `(tactic| walk_at "call builtin:list.append") => `(tactic| refine Paused.intro ?_)
section
open PyProof.V PySem.Spec
local macro_rules | `(tactic| walk_at "call builtin:sorted") => `(tactic| refine Paused.intro ?_)
section
open PyProof.V PySem.Spec
local macro_rules | `(tactic| walk_at "call builtin:sum") => `(tactic| refine Paused.intro ?_)
section
open PyProof.V PySem.Spec
local macro_rules | `(tactic| walk_at "call ref") => `(tactic| refine Paused.intro ?_)
section
open PyProof.V PySem.Spec
local macro_rules | `(tactic| walk_at "eval ListComp") => `(tactic| refine Paused.intro ?_)
section
open PyProof.V PySem.Spec
local macro_rules | `(tactic| walk_at "exec For Tuple Call cons nil") => `(tactic| refine Paused.intro ?_)
section
open PyProof.V PySem.Spec
local macro_rules | `(tactic| walk_at "mine frame") => `(tactic| (rename_i y9 hy9; (repeat first | rw [if_neg (off_st hy9 (by decide +kernel))] | rw [if_neg (off_in hy9)])))
section
open PyProof.V PySem.Spec
local macro_rules | `(tactic| walk_at "subscriptTail Name Slice ref ref") => `(tactic| refine Paused.intro ?_)
section
open PyProof.V PySem.Spec
local macro_rules | `(tactic| walk_at "call type:enumerate") => `(tactic| refine Paused.intro ?_)
section
open PyProof.V PySem.Spec
local macro_rules | `(tactic| walk_at "call type:zip") => `(tactic| refine Paused.intro ?_)
section
open PyProof.V PySem.Spec
local macro_rules | `(tactic| walk_at "compareOp Eq ref ref") => `(tactic| refine Paused.intro ?_)
section
open PyProof.V PySem.Spec
local macro_rules | `(tactic| walk_at "compareOp NotEq ref ref") => `(tactic| refine Paused.intro ?_)
section
open PyProof.V PySem.Spec
local macro_rules | `(tactic| walk_at "subscriptTail Name Name ref int") => `(tactic| refine Paused.intro ?_)
local macro_rules | `(tactic| walk_at "subscriptTail Name Name ref int") => `(tactic| k_extra "mv34")
section
open PyProof.V PySem.Spec
local macro_rules | `(tactic| walk_at "execs cons") => `(tactic| k_extra "mv4")
local macro_rules | `(tactic| walk_at "execs cons") => `(tactic| ((with_reducible show wpAny _ _ (execs (Stmt.If _ _ _ _ :: _) _) _ _ _); refine Paused.intro ?_))
theorem sweepP21 {M : Model} {A : Around} {env : Env} {Q : Flow → Shared → Prop} {E : Value → Shared → Prop} {s : Shared} (h : wpAny M A (execs [] env) Q E s) : wpAny M A (execs [] env) Q E s := by w_top off; first | (walk1; fail "swept") | exact h
section
open PyProof.V PySem.Spec
namespace E_law_r1
noncomputable def epsP (q : World × Program × (List Str) × (ExcName → Option Value) × (Str → Option Value) × (Str → Option Value) × Heap × Addr × Addr × Value × (Str → Option Value) × Shared × Obj × Obj × Obj × Obj × Obj × Addr × (List Value) × Nat × Led × (List Ev) × (List Nat) × (Flow → Shared → Prop) × (Value → Shared → Prop)) : Prop := (fun (w : World) (p : Program) (loose : List Str) (mean : ExcName → Option Value) (mg : Str → Option Value) (mb : Str → Option Value) (h₀ : Heap) (L : Addr) (fa : Addr) (cd : Value) (m : Str → Option Value) (s : Shared) (oN : Obj) (oT : Obj) (oL : Obj) (oE : Obj) (oS : Obj) (lE : Addr) (vE : List Value) (nE : Nat) (P : Led) (es : List Ev) (pp : List Nat) (Q : Flow → Shared → Prop) (E : Value → Shared → Prop) => ∀ (T : Top p loose mean mg mb h₀) (B : Below callerA h₀ [] h₀) (X : (K w.params).In h₀) (F : Fr h₀ L s.heap m) (N : News h₀ L s.heap ((L + 1 + 1 + 1 + 1 + 1, oN) :: (L + 1 + 1 + 1 + 1, oT) :: (L + 1 + 1 + 1, oL) :: (L + 1 + 1, oE) :: (L + 1, oS) :: (lE, W.listOf vE.toArray nE) :: P)) (dN : oN.data = .cell none) (dT : oT.data = .cell none) (dL : oL.data = .cell none) (dE : oE.data = .cell (some (.ref lE))) (hE : DatAll P vE (es.map evD)) (pl : Plain9 es pp) (hnext : ∀ (A : Nat → Addr) (V : Nat → List Value) (C : Nat → Nat) (O : Nat → Obj) (K9 : Nat → Tok) (m : Str → Option Value) (P : Led) (h : Heap) (tk : Nat), At w h₀ L es pp A V C O K9 m P h → wpAny (model prog w) (callerA.deeper (lawE L fa cd)) (execs (fLaw.1.2.1.drop 4) (lawE L fa cd)) Q E { s with heap := h, toks := tk }), wpAny (model prog w) (callerA.deeper (lawE L fa cd)) (execs (fLaw.1.2.1.drop 1) (lawE L fa cd)) Q E s) q.1 q.2.1 q.2.2.1 q.2.2.2.1 q.2.2.2.2.1 q.2.2.2.2.2.1 q.2.2.2.2.2.2.1 q.2.2.2.2.2.2.2.1 q.2.2.2.2.2.2.2.2.1 q.2.2.2.2.2.2.2.2.2.1 q.2.2.2.2.2.2.2.2.2.2.1 q.2.2.2.2.2.2.2.2.2.2.2.1 q.2.2.2.2.2.2.2.2.2.2.2.2.1 q.2.2.2.2.2.2.2.2.2.2.2.2.2.1 q.2.2.2.2.2.2.2.2.2.2.2.2.2.2.1 q.2.2.2.2.2.2.2.2.2.2.2.2.2.2.2.1 q.2.2.2.2.2.2.2.2.2.2.2.2.2.2.2.2.1 q.2.2.2.2.2.2.2.2.2.2.2.2.2.2.2.2.2.1 q.2.2.2.2.2.2.2.2.2.2.2.2.2.2.2.2.2.2.1 q.2.2.2.2.2.2.2.2.2.2.2.2.2.2.2.2.2.2.2.1 q.2.2.2.2.2.2.2.2.2.2.2.2.2.2.2.2.2.2.2.2.1 q.2.2.2.2.2.2.2.2.2.2.2.2.2.2.2.2.2.2.2.2.2.1 q.2.2.2.2.2.2.2.2.2.2.2.2.2.2.2.2.2.2.2.2.2.2.1 q.2.2.2.2.2.2.2.2.2.2.2.2.2.2.2.2.2.2.2.2.2.2.2.1 q.2.2.2.2.2.2.2.2.2.2.2.2.2.2.2.2.2.2.2.2.2.2.2.2
theorem epsN : Nonempty (World × Program × (List Str) × (ExcName → Option Value) × (Str → Option Value) × (Str → Option Value) × Heap × Addr × Addr × Value × (Str → Option Value) × Shared × Obj × Obj × Obj × Obj × Obj × Addr × (List Value) × Nat × Led × (List Ev) × (List Nat) × (Flow → Shared → Prop) × (Value → Shared → Prop)) := ⟨(Classical.choice neWorld, default, default, default, default, default, default, default, default, default, default, {}, default, default, default, default, default, default, default, default, default, default, default, default, default)⟩
@[irreducible] noncomputable def epsC : World × Program × (List Str) × (ExcName → Option Value) × (Str → Option Value) × (Str → Option Value) × Heap × Addr × Addr × Value × (Str → Option Value) × Shared × Obj × Obj × Obj × Obj × Obj × Addr × (List Value) × Nat × Led × (List Ev) × (List Nat) × (Flow → Shared → Prop) × (Value → Shared → Prop) := worst epsN epsP
@[irreducible] noncomputable def w : World := epsC.1
@[irreducible] noncomputable def p : Program := epsC.2.1
@[irreducible] noncomputable def loose : List Str := epsC.2.2.1
@[irreducible] noncomputable def mean : ExcName → Option Value := epsC.2.2.2.1
@[irreducible] noncomputable def mg : Str → Option Value := epsC.2.2.2.2.1
@[irreducible] noncomputable def mb : Str → Option Value := epsC.2.2.2.2.2.1
@[irreducible] noncomputable def h₀ : Heap := epsC.2.2.2.2.2.2.1
@[irreducible] noncomputable def L : Addr := epsC.2.2.2.2.2.2.2.1
@[irreducible] noncomputable def fa : Addr := epsC.2.2.2.2.2.2.2.2.1
@[irreducible] noncomputable def cd : Value := epsC.2.2.2.2.2.2.2.2.2.1
@[irreducible] noncomputable def m : Str → Option Value := epsC.2.2.2.2.2.2.2.2.2.2.1
@[irreducible] noncomputable def s : Shared := epsC.2.2.2.2.2.2.2.2.2.2.2.1
@[irreducible] noncomputable def oN : Obj := epsC.2.2.2.2.2.2.2.2.2.2.2.2.1
@[irreducible] noncomputable def oT : Obj := epsC.2.2.2.2.2.2.2.2.2.2.2.2.2.1
@[irreducible] noncomputable def oL : Obj := epsC.2.2.2.2.2.2.2.2.2.2.2.2.2.2.1
@[irreducible] noncomputable def oE : Obj := epsC.2.2.2.2.2.2.2.2.2.2.2.2.2.2.2.1
@[irreducible] noncomputable def oS : Obj := epsC.2.2.2.2.2.2.2.2.2.2.2.2.2.2.2.2.1
@[irreducible] noncomputable def lE : Addr := epsC.2.2.2.2.2.2.2.2.2.2.2.2.2.2.2.2.2.1
@[irreducible] noncomputable def vE : List Value := epsC.2.2.2.2.2.2.2.2.2.2.2.2.2.2.2.2.2.2.1
@[irreducible] noncomputable def nE : Nat := epsC.2.2.2.2.2.2.2.2.2.2.2.2.2.2.2.2.2.2.2.1
@[irreducible] noncomputable def P : Led := epsC.2.2.2.2.2.2.2.2.2.2.2.2.2.2.2.2.2.2.2.2.1
@[irreducible] noncomputable def es : List Ev := epsC.2.2.2.2.2.2.2.2.2.2.2.2.2.2.2.2.2.2.2.2.2.1
@[irreducible] noncomputable def pp : List Nat := epsC.2.2.2.2.2.2.2.2.2.2.2.2.2.2.2.2.2.2.2.2.2.2.1
@[irreducible] noncomputable def Q : Flow → Shared → Prop := epsC.2.2.2.2.2.2.2.2.2.2.2.2.2.2.2.2.2.2.2.2.2.2.2.1
@[irreducible] noncomputable def E : Value → Shared → Prop := epsC.2.2.2.2.2.2.2.2.2.2.2.2.2.2.2.2.2.2.2.2.2.2.2.2
theorem walk (T : Top p loose mean mg mb h₀) (B : Below callerA h₀ [] h₀) (X : (K w.params).In h₀) (F : Fr h₀ L s.heap m) (N : News h₀ L s.heap ((L + 1 + 1 + 1 + 1 + 1, oN) :: (L + 1 + 1 + 1 + 1, oT) :: (L + 1 + 1 + 1, oL) :: (L + 1 + 1, oE) :: (L + 1, oS) :: (lE, W.listOf vE.toArray nE) :: P)) (dN : oN.data = .cell none) (dT : oT.data = .cell none) (dL : oL.data = .cell none) (dE : oE.data = .cell (some (.ref lE))) (hE : DatAll P vE (es.map evD)) (pl : Plain9 es pp) (hnext : ∀ (A : Nat → Addr) (V : Nat → List Value) (C : Nat → Nat) (O : Nat → Obj) (K9 : Nat → Tok) (m : Str → Option Value) (P : Led) (h : Heap) (tk : Nat), At w h₀ L es pp A V C O K9 m P h → wpAny (model prog w) (callerA.deeper (lawE L fa cd)) (execs (fLaw.1.2.1.drop 4) (lawE L fa cd)) Q E { s with heap := h, toks := tk }) : wpAny (model prog w) (callerA.deeper (lawE L fa cd)) (execs (fLaw.1.2.1.drop 1) (lawE L fa cd)) Q E s := by
  have hlen := pl.hlen
  dsimp only [List.drop] at hnext ⊢
  k_steps
  unfold Paused
  refine' use_read ((lE, W.listOf vE.toArray nE) :: P) (logged_spec w lE vE nE es P hE pl.hok pl.hlen) ?uP (by k_asm) (by assumption) (by k_asm) (by assumption) (by k_asm) (by exact rfl) (by ktr_room) (by ktr_units) (tail_of 5 rfl) ?_
  case uP =>
    rintro n' v ⟨_, _, _, _, _, _, _, _, _, _, _, _, _, _, _, _, _, _, _, hs⟩ p hp
    exact hs p (List.mem_cons_of_mem _ (List.mem_append_right _ hp))
  rintro v4 h4 tk4 new4 F4 N4 ⟨D, lL, xL, dL1, tL, vL, nL, lP, xP, dP1, tP, vP, nP, add, rfl, apL, apP, hL, hPl, hs⟩
  have hL1 := DatAll.nc (hL.mono (fun p hp => hs p (List.mem_cons_of_mem _ (List.mem_append_left _ (List.mem_append_right _ hp)))))
  have hP1 := DatAll.nc (hPl.mono (fun p hp => hs p (List.mem_cons_of_mem _ (List.mem_append_left _ (List.mem_append_right _ hp)))))
  have hE1 := DatAll.nc (hE.mono (fun p hp => hs p (List.mem_cons_of_mem _ (List.mem_append_right _ (List.mem_cons_of_mem _ hp)))))
  have j0 := mem_nocell (hs _ (List.mem_cons_of_mem _ (List.mem_append_right _ (List.Mem.head _)))) rfl
  have N5 := led_re N4 hs nocell_sub [0, 1, 2, 3, 4, 5] [0]
  dsimp only [pickN, atN, List.cons_append, List.nil_append] at N5
  unfold hdr at hs
  dsimp only [List.cons_append, List.nil_append] at hs
  have j1 := mem_nocell (hs (lL, W.listOf vL.toArray nL) (by k_mem)) rfl
  have j2 := mem_nocell (hs (xL, instObj 182 dL1) (by k_mem)) rfl
  have j3 := mem_nocell (hs (dL1, hDict w tL lL) (by k_mem)) rfl
  have j4 := mem_nocell (hs (lP, W.listOf vP.toArray nP) (by k_mem)) rfl
  have j5 := mem_nocell (hs (xP, instObj 182 dP1) (by k_mem)) rfl
  have j6 := mem_nocell (hs (dP1, hDict w tP lP) (by k_mem)) rfl
  have hq1 := noCell_filter new4
  generalize new4.filter noCellB = P1 at hL1 hP1 hE1 hq1 N5 j0 j1 j2 j3 j4 j5 j6
  clear N4 hs hL hPl hE N
  k_steps
  unfold Paused
  have hvE : vE.length = es.length := by rw [hE1.length, List.length_map]
  refine comp_eval (ct := none) (by with_unfolding_all rfl) (by rfl) (by decide) ?_
  k_steps
  rename_i hIR FR NR upR
  have NS := News.sub (news' := (L + 1 + 1 + 1 + 1 + 1, oN) :: (L + 1 + 1 + 1 + 1, oT) :: (L + 1 + 1 + 1, oL) :: (L + 1 + 1, oE) :: (L + 1, oS) :: (lE, W.listOf vE.toArray nE) :: P1) NR (List.forall_mem_cons.mpr ⟨by k_mem, List.forall_mem_cons.mpr ⟨by k_mem, List.forall_mem_cons.mpr ⟨by k_mem, List.forall_mem_cons.mpr ⟨by k_mem, List.forall_mem_cons.mpr ⟨by k_mem, List.forall_mem_cons.mpr ⟨by k_mem, tail_of 7 rfl⟩⟩⟩⟩⟩⟩)
  refine comp_range (n := vE.length) (names := [Str.ofString "k"]) (fix := (L + 1 + 1 + 1 + 1 + 1, oN) :: (L + 1 + 1 + 1 + 1, oT) :: (L + 1 + 1 + 1, oL) :: (L + 1 + 1, oE) :: (L + 1, oS) :: (lE, W.listOf vE.toArray nE) :: []) (add₀ := P1) (J := fun i ys add => DatAll add ys ((List.range i).map fun k => Dat.str (lineOf es k)) ∧ add = P1) (B := fun i vals => ∃ t, vals = [Value.int (i : Int) t]) (by exact rfl) FR NS hIR (range_small (by omega)) (range_size _) (by rw [sizeLine_eq]; omega) (by decide) (by rfl) (by decide) (by decide) (fun i t hi => ⟨[.int (i : Int) t], fun h => by rw [Int.zero_add]; exact .name, rfl, t, rfl⟩) ⟨.nil, rfl⟩ fin_eval (fun I => ?step1) ?fin1
  case step1 =>
    rintro i ys add vals oC C9 D9 m₂ h8 tk8 E8 hi hJ hs ⟨t8, rfl⟩ hC hx F8
    refine AllObj.cons (fun o8 c8 => AllObj.nil (fun N8 off8 => ?_))
    simp only [List.zip_cons_cons, List.zip_nil_right, List.forall_mem_cons] at hx
    obtain ⟨hx8, _⟩ := hx
    dsimp only [List.cons_append, List.nil_append] at N8 hx8
    show wpAny _ _ (eval _ _) (CEnd _ _ _ _ _ _ _ _) _ _
    obtain ⟨hJ, rfl⟩ := hJ
    clear NR FR upR hIR NS
    obtain ⟨v9, hv9⟩ : ∃ v, vE[i]? = some v := ⟨_, List.getElem?_eq_getElem hi⟩
    obtain ⟨e, Te, t1, t2, t3, n9, he, rfl, hm⟩ := ev_at hE1 hv9
    obtain ⟨k1, k2, k3, k4⟩ := pl.hok e (List.mem_of_getElem? he)
    have hh1 : (e.2.2 : Int) < 100 := by omega
    have hh2 : (i : Int) < 100 := by omega
    have N9 := News.more N8 (tail_of 9 rfl _ hm)
    clear N8
    k_steps
    unfold Paused
    refine' use_read [(Te, ({ cls := .type "tuple", data := .seq #[Value.str e.1 t1, Value.int e.2.1 t2, Value.int (e.2.2 : Int) t3] n9 } : Obj))] (linel_spec w Te e.1 e.2.1 (e.2.2 : Int) (i : Int) t1 t2 t3 _ k2 k3 (Int.natCast_nonneg _) hh1 (Int.natCast_nonneg _) hh2 n9) (fun n v (h : IsStrAt _ _ n v) => h.2) (by k_asm) (by k_asm) (by k_asm) (by assumption) (by k_asm) (by exact rfl) ?ud ?uu (List.forall_mem_cons.mpr ⟨List.Mem.head _, List.forall_mem_nil _⟩) ?_
    case ud => ktr_room
    case uu => ktr_units
    rintro v5 h5 tk5 new5 F5 N5 ⟨⟨t5, rfl⟩, _⟩
    refine' CEnd.mk F5 N5 [] (fun p hp => List.mem_append_right _ (List.mem_cons_of_mem _ hp)) (List.forall_mem_nil _) ⟨dat_snoc hJ (fun _ h => h) ?_, rfl⟩
    unfold lineOf
    rw [evG_at he]
    exact .str _ _
  case fin1 =>
    rintro D2 h9 tk9 vN add ⟨hN, rfl⟩ hs9 F9 N9 off9 lt9
    dsimp only [List.cons_append, List.nil_append] at N9 lt9
    rw [hvE] at hN
    clear NR FR upR hIR NS off9
    k_lt lt9
    k_steps
    unfold Paused
    refine' use_read ((lE, W.listOf vE.toArray nE) :: add) (last_spec w lE vE nE es pp add hq1 hE1 pl.hok pl.h2 pl.hlen pl.hpp pl.hpb pl.hpl) ?uP2 (by k_asm) (by assumption) (by k_asm) (by assumption) (by k_asm) (by exact rfl) (by ktr_room) (by ktr_units) (tail_of 6 rfl) ?_
    case uP2 =>
      rintro n' v ⟨_, _, _, _, _, hs⟩ p hp
      exact hs p (List.mem_cons_of_mem _ hp)
    rintro v6 h6 tk6 new6 F6 N6 ⟨lZ, vZ, nZ, rfl, hZ, hsZ⟩
    have hZ1 := DatAll.nc hZ
    have hsub := NoCell.mem hq1 (led := new6) (fun p hp => hsZ p (List.mem_cons_of_mem _ (List.mem_cons_of_mem _ hp)))
    have j8 := mem_nocell (hsZ _ (List.Mem.head _)) rfl
    have N7 := led_re N6 (sel := []) (List.forall_mem_nil _) nocell_sub [1, 2, 3, 4, 5, 0] []
    dsimp only [pickN, atN, List.cons_append, List.nil_append] at N7
    have hq2 := noCell_filter new6
    generalize new6.filter noCellB = P2 at hZ1 hsub j8 hq2 N7
    clear N6 hsZ hZ N9
    have c1 := NoCell.off (NoCell.cons (a := D2) (o := LCg.lst vN) hq2 (fun _ => nofun)) N7 (c := L + 1 + 1 + 1) (oc := oL) (tail_of 5 rfl) (by k_mem) dL
    have hLs := hL1.mono hsub
    have N8 := News.mix (P := P2) N7 6 rfl [0, 1, 2, 3, 4, 5] (in2 (hsub _ j2) (hsub _ j3)) []
    dsimp only [pickN, atN, List.cons_append, List.nil_append] at N8
    clear N7
    k_steps
    unfold Paused
    rename_i D8 _ lD8 _ _ oL2 dL2 _ F8 N8 _ _
    have hql : (logPairs es).length = es.length := by unfold logPairs; rw [List.length_mapIdx]
    refine' use_read (hdr w lL xL dL1 tL vL nL ++ P2) (table_spec w xL dL1 lL tL vL nL (logPairs es) (hoursOf es) P2 hLs apL (by rw [List.length_map, hql]) (by omega) pl.hnd pl.hhp pl.hlg).ctr ?uP3 (by k_asm) (by assumption) (by k_asm) (by assumption) (by k_asm) (by exact rfl) (by ktr_room) (by ktr_units) ?um3 ?_
    case uP3 =>
      rintro n' v ⟨_, _, _, _, _, _, _, _, _, _, _, _, _, _, hs⟩ p hp
      exact hs p (List.mem_cons_of_mem _ (List.mem_cons_of_mem _ (List.mem_append_right _ hp)))
    case um3 => exact fun p hp => (List.mem_append.mp hp).elim (fun h => tail_of 7 rfl p (in3 (hsub _ j1) (hsub _ j2) (hsub _ j3) p h)) (fun h => tail_of (P := P2) 7 rfl p h)
    rintro v6 h7 tk7 new7 F9 N9 ⟨D9, lT, xT, dT1, tT, vT, nT, lQ, vQ, nQ, rfl, apT, hT, hQ, hs⟩
    rw [hql] at hT hQ
    have hT1 := DatAll.nc hT
    have hQ1 := DatAll.nc hQ
    have hsub3 := NoCell.mem hq2 (led := new7) (fun p hp => hs p (List.mem_cons_of_mem _ (List.mem_cons_of_mem _ (List.mem_append_right _ (List.mem_append_right _ hp)))))
    have NA := led_re N9 hs nocell_sub [1, 2, 3, 4, 5, 6] [0]
    dsimp only [pickN, atN, List.cons_append, List.nil_append] at NA
    unfold hdr at hs
    dsimp only [List.cons_append, List.nil_append] at hs
    have jQ := mem_nocell (hs (lQ, W.listOf vQ.toArray nQ) (by k_mem)) rfl
    have jT := mem_nocell (hs (lT, W.listOf vT.toArray nT) (by k_mem)) rfl
    have jx := mem_nocell (hs (xT, instObj 182 dT1) (by k_mem)) rfl
    have jd := mem_nocell (hs (dT1, hDict w tT lT) (by k_mem)) rfl
    have hq3 := noCell_filter new7
    generalize new7.filter noCellB = P3 at hT1 hQ1 hsub3 hq3 NA jQ jT jx jd
    clear N9 hs hT hQ N8 c1
    have up : ∀ p ∈ add, p ∈ P3 := fun p hp => hsub3 _ (hsub _ hp)
    have c1 := NoCell.off (NoCell.cons (a := D2) (o := LCg.lst vN) (NoCell.cons (a := D9) (o := ({ cls := .type "tuple", data := .seq #[.ref xT, .ref lQ] } : Obj)) hq3 (fun _ => nofun)) (fun _ => nofun)) NA (c := L + 1 + 1 + 1 + 1) (oc := oT) (tail_of 5 rfl) (by k_mem) dT
    k_steps
    unfold Paused
    rename_i oT2 dT2 _ FF NN
    have u3 := tail_of (all := (L + 1 + 1 + 1 + 1 + 1, oN) :: (L + 1 + 1 + 1 + 1, oT2) :: (L + 1 + 1 + 1, oL2) :: (L + 1 + 1, oE) :: (L + 1, oS) :: (D2, LCg.lst vN) :: (D9, ({ cls := .type "tuple", data := .seq #[.ref xT, .ref lQ] } : Obj)) :: P3) (P := P3) 7 rfl
    have u1 := fun p hp => u3 p (up p hp)
    exact hnext (fun i => [lE, lL, xL, dL1, lP, xP, dP1, D2, lZ, lT, xT, dT1, lQ].getD i 0) (fun i => [vE, vL, [], [], vP, [], [], vN, vZ, vT, [], [], vQ].getD i []) (fun i => [nE, nL, 0, 0, nP, 0, 0, vN.length, nZ, nT, 0, 0, nQ].getD i 0) (fun i => [oN, oT2, oL2, oE].getD i oN) (fun i => [0, tL, 0, 0, tP, 0, 0, 0, 0, tT].getD i 0) _ _ _ _
      { F := FF, N := NN, mQ := rfl, mZ := rfl, mP := rfl, mL := rfl, iN := List.Mem.head _, iT := .tail _ (List.Mem.head _), iL := .tail _ (.tail _ (List.Mem.head _)), iE := .tail _ (.tail _ (.tail _ (List.Mem.head _))), i0 := u1 _ j0, i1 := u1 _ j1, i2 := u1 _ j2, i3 := u1 _ j3, i4 := u1 _ j4, i5 := u1 _ j5, i6 := u1 _ j6, i7 := .tail _ (.tail _ (.tail _ (.tail _ (.tail _ (List.Mem.head _))))), i8 := u3 _ (hsub3 _ j8), i9 := u3 _ jT, i10 := u3 _ jx, i11 := u3 _ jd, i12 := u3 _ jQ, cN := ⟨_, dN⟩, cT := dT2, cL := dL2, cE := dE, a1 := apL, a4 := apP, a9 := apT, hE := hE1.mono u1, hL := hL1.mono u1, hP := hP1.mono u1, hN := hN.mono u1, hZ := hZ1.mono fun p hp => u3 p (hsub3 p hp), hT := hT1.mono u3, hQ := hQ1.mono u3 }
theorem fin : epsP epsC := by with_unfolding_all exact fun T B X F N dN dT dL dE hE pl hnext => walk T B X F N dN dT dL dE hE pl hnext
end E_law_r1
theorem law_r1 (w : World) (p : Program) (loose : List Str) (mean : ExcName → Option Value) (mg mb : Str → Option Value) (h₀ : Heap) (L fa : Addr) (cd : Value) (T : Top p loose mean mg mb h₀) (B : Below callerA h₀ [] h₀) (X : (K w.params).In h₀) (m : Str → Option Value) (s : Shared) (oN oT oL oE oS : Obj) (lE : Addr) (vE : List Value) (nE : Nat) (P : Led) (es : List Ev) (pp : List Nat) (F : Fr h₀ L s.heap m) (N : News h₀ L s.heap ((L + 1 + 1 + 1 + 1 + 1, oN) :: (L + 1 + 1 + 1 + 1, oT) :: (L + 1 + 1 + 1, oL) :: (L + 1 + 1, oE) :: (L + 1, oS) :: (lE, W.listOf vE.toArray nE) :: P)) (dN : oN.data = .cell none) (dT : oT.data = .cell none) (dL : oL.data = .cell none) (dE : oE.data = .cell (some (.ref lE))) (hE : DatAll P vE (es.map evD)) (pl : Plain9 es pp) (Q : Flow → Shared → Prop) (E : Value → Shared → Prop) (hnext : ∀ (A : Nat → Addr) (V : Nat → List Value) (C : Nat → Nat) (O : Nat → Obj) (K9 : Nat → Tok) (m : Str → Option Value) (P : Led) (h : Heap) (tk : Nat), At w h₀ L es pp A V C O K9 m P h → wpAny (model prog w) (callerA.deeper (lawE L fa cd)) (execs (fLaw.1.2.1.drop 4) (lawE L fa cd)) Q E { s with heap := h, toks := tk }) : wpAny (model prog w) (callerA.deeper (lawE L fa cd)) (execs (fLaw.1.2.1.drop 1) (lawE L fa cd)) Q E s := of_worst (P := E_law_r1.epsP) (h := E_law_r1.epsN) (by with_unfolding_all exact E_law_r1.fin) (w, p, loose, mean, mg, mb, h₀, L, fa, cd, m, s, oN, oT, oL, oE, oS, lE, vE, nE, P, es, pp, Q, E) T B X F N dN dT dL dE hE pl hnext
end
end
theorem sweepP22a {M : Model} {A : Around} {env : Env} {Q : Flow → Shared → Prop} {E : Value → Shared → Prop} {s : Shared} (h : wpAny M A (execs [] env) Q E s) : wpAny M A (execs [] env) Q E s := by w_top off; first | (walk1; fail "swept") | exact h
section
open PyProof.V PySem.Spec
local macro_rules | `(tactic| walk_at "eval Name") => `(tactic| (k_dflt (refine' nameX_L ?k1 ?k2 ?_; (case k1 => k_asm); (case k2 => assumption); k_whole)))
section
open PyProof.V PySem.Spec
local macro_rules | `(tactic| walk_at "execs cons") => `(tactic| k_extra "mv4")
local macro_rules | `(tactic| walk_at "execs cons") => `(tactic| ((with_reducible show wpAny _ _ (execs (Stmt.For _ _ _ _ _ :: _) _) _ _ _); refine Paused.intro ?_))
theorem sweepP22 {M : Model} {A : Around} {env : Env} {Q : Flow → Shared → Prop} {E : Value → Shared → Prop} {s : Shared} (h : wpAny M A (execs [] env) Q E s) : wpAny M A (execs [] env) Q E s := by w_top off; first | (walk1; fail "swept") | exact h
section
open PyProof.V PySem.Spec
noncomputable def EnVals (es : List Ev) (i : Nat) (vals : List Value) : Prop := ∃ e t t1 t2 t3, es[i]? = some e ∧ vals = [Value.int (i : Int) t, Value.str e.1 t1, Value.int e.2.1 t2, Value.int (e.2.2 : Int) t3]
theorem pairs_ok {qs : List (Str × Str)} (h : ∀ q ∈ qs, PyData.strOk q.1 = true ∧ PyData.strOk q.2 = true) : kqdOk 8 (.list (qs.map pairD)) = true := by
  show (qs.map pairD).all (kqdOk 7) = true
  rw [List.all_eq_true]
  intro d hd
  obtain ⟨q, hq, rfl⟩ := List.mem_map.mp hd
  show ([Dat.str q.1, Dat.str q.2].all (kqdOk 6)) = true
  have := h q hq
  simp only [List.all_cons, List.all_nil, kqdOk, this.1, this.2, Bool.and_self]
namespace E_law_r2a
noncomputable def epsP (q : World × Program × (List Str) × (ExcName → Option Value) × (Str → Option Value) × (Str → Option Value) × Heap × Addr × Addr × Value × Shared × (List Ev) × (List Nat) × (Nat → Addr) × (Nat → List Value) × (Nat → Nat) × (Nat → Obj) × (Nat → Tok) × (Str → Option Value) × Led × (Flow → Shared → Prop) × (Value → Shared → Prop)) : Prop := (fun (w : World) (p : Program) (loose : List Str) (mean : ExcName → Option Value) (mg : Str → Option Value) (mb : Str → Option Value) (h₀ : Heap) (L : Addr) (fa : Addr) (cd : Value) (s : Shared) (es : List Ev) (pp : List Nat) (A : Nat → Addr) (V : Nat → List Value) (C : Nat → Nat) (O : Nat → Obj) (K9 : Nat → Tok) (m : Str → Option Value) (P : Led) (Q : Flow → Shared → Prop) (E : Value → Shared → Prop) => ∀ (T : Top p loose mean mg mb h₀) (B : Below callerA h₀ [] h₀) (X : (K w.params).In h₀) (pl : Plain9 es pp) (hat : At w h₀ L es pp A V C O K9 m P s.heap) (hnext : ∀ P h tk, At w h₀ L es pp A V C O K9 m P h → wpAny (model prog w) (callerA.deeper (lawE L fa cd)) (execs (fLaw.1.2.1.drop 5) (lawE L fa cd)) Q E { s with heap := h, toks := tk }), wpAny (model prog w) (callerA.deeper (lawE L fa cd)) (execs (fLaw.1.2.1.drop 4) (lawE L fa cd)) Q E s) q.1 q.2.1 q.2.2.1 q.2.2.2.1 q.2.2.2.2.1 q.2.2.2.2.2.1 q.2.2.2.2.2.2.1 q.2.2.2.2.2.2.2.1 q.2.2.2.2.2.2.2.2.1 q.2.2.2.2.2.2.2.2.2.1 q.2.2.2.2.2.2.2.2.2.2.1 q.2.2.2.2.2.2.2.2.2.2.2.1 q.2.2.2.2.2.2.2.2.2.2.2.2.1 q.2.2.2.2.2.2.2.2.2.2.2.2.2.1 q.2.2.2.2.2.2.2.2.2.2.2.2.2.2.1 q.2.2.2.2.2.2.2.2.2.2.2.2.2.2.2.1 q.2.2.2.2.2.2.2.2.2.2.2.2.2.2.2.2.1 q.2.2.2.2.2.2.2.2.2.2.2.2.2.2.2.2.2.1 q.2.2.2.2.2.2.2.2.2.2.2.2.2.2.2.2.2.2.1 q.2.2.2.2.2.2.2.2.2.2.2.2.2.2.2.2.2.2.2.1 q.2.2.2.2.2.2.2.2.2.2.2.2.2.2.2.2.2.2.2.2.1 q.2.2.2.2.2.2.2.2.2.2.2.2.2.2.2.2.2.2.2.2.2
theorem epsN : Nonempty (World × Program × (List Str) × (ExcName → Option Value) × (Str → Option Value) × (Str → Option Value) × Heap × Addr × Addr × Value × Shared × (List Ev) × (List Nat) × (Nat → Addr) × (Nat → List Value) × (Nat → Nat) × (Nat → Obj) × (Nat → Tok) × (Str → Option Value) × Led × (Flow → Shared → Prop) × (Value → Shared → Prop)) := ⟨(Classical.choice neWorld, default, default, default, default, default, default, default, default, default, {}, default, default, default, default, default, default, default, default, default, default, default)⟩
@[irreducible] noncomputable def epsC : World × Program × (List Str) × (ExcName → Option Value) × (Str → Option Value) × (Str → Option Value) × Heap × Addr × Addr × Value × Shared × (List Ev) × (List Nat) × (Nat → Addr) × (Nat → List Value) × (Nat → Nat) × (Nat → Obj) × (Nat → Tok) × (Str → Option Value) × Led × (Flow → Shared → Prop) × (Value → Shared → Prop) := worst epsN epsP
@[irreducible] noncomputable def w : World := epsC.1
@[irreducible] noncomputable def p : Program := epsC.2.1
@[irreducible] noncomputable def loose : List Str := epsC.2.2.1
@[irreducible] noncomputable def mean : ExcName → Option Value := epsC.2.2.2.1
@[irreducible] noncomputable def mg : Str → Option Value := epsC.2.2.2.2.1
@[irreducible] noncomputable def mb : Str → Option Value := epsC.2.2.2.2.2.1
@[irreducible] noncomputable def h₀ : Heap := epsC.2.2.2.2.2.2.1
@[irreducible] noncomputable def L : Addr := epsC.2.2.2.2.2.2.2.1
@[irreducible] noncomputable def fa : Addr := epsC.2.2.2.2.2.2.2.2.1
@[irreducible] noncomputable def cd : Value := epsC.2.2.2.2.2.2.2.2.2.1
@[irreducible] noncomputable def s : Shared := epsC.2.2.2.2.2.2.2.2.2.2.1
@[irreducible] noncomputable def es : List Ev := epsC.2.2.2.2.2.2.2.2.2.2.2.1
@[irreducible] noncomputable def pp : List Nat := epsC.2.2.2.2.2.2.2.2.2.2.2.2.1
@[irreducible] noncomputable def A : Nat → Addr := epsC.2.2.2.2.2.2.2.2.2.2.2.2.2.1
@[irreducible] noncomputable def V : Nat → List Value := epsC.2.2.2.2.2.2.2.2.2.2.2.2.2.2.1
@[irreducible] noncomputable def C : Nat → Nat := epsC.2.2.2.2.2.2.2.2.2.2.2.2.2.2.2.1
@[irreducible] noncomputable def O : Nat → Obj := epsC.2.2.2.2.2.2.2.2.2.2.2.2.2.2.2.2.1
@[irreducible] noncomputable def K9 : Nat → Tok := epsC.2.2.2.2.2.2.2.2.2.2.2.2.2.2.2.2.2.1
@[irreducible] noncomputable def m : Str → Option Value := epsC.2.2.2.2.2.2.2.2.2.2.2.2.2.2.2.2.2.2.1
@[irreducible] noncomputable def P : Led := epsC.2.2.2.2.2.2.2.2.2.2.2.2.2.2.2.2.2.2.2.1
@[irreducible] noncomputable def Q : Flow → Shared → Prop := epsC.2.2.2.2.2.2.2.2.2.2.2.2.2.2.2.2.2.2.2.2.1
@[irreducible] noncomputable def E : Value → Shared → Prop := epsC.2.2.2.2.2.2.2.2.2.2.2.2.2.2.2.2.2.2.2.2.2
theorem walk (T : Top p loose mean mg mb h₀) (B : Below callerA h₀ [] h₀) (X : (K w.params).In h₀) (pl : Plain9 es pp) (hat : At w h₀ L es pp A V C O K9 m P s.heap) (hnext : ∀ P h tk, At w h₀ L es pp A V C O K9 m P h → wpAny (model prog w) (callerA.deeper (lawE L fa cd)) (execs (fLaw.1.2.1.drop 5) (lawE L fa cd)) Q E { s with heap := h, toks := tk }) : wpAny (model prog w) (callerA.deeper (lawE L fa cd)) (execs (fLaw.1.2.1.drop 4) (lawE L fa cd)) Q E s := by
  have hlen := pl.hlen
  have hvE := hat.vE
  have hvL := hat.vL
  have hvP := hat.vP
  have hvN := hat.vN
  have mL := hat.mL
  have mP := hat.mP
  have F := hat.F
  have cL := hat.cL
  have cE := hat.cE
  dsimp only [List.drop] at hnext ⊢
  have N1 := News.ahead hat.N (in4 hat.i2 hat.i3 hat.i5 hat.i6)
  dsimp only [pickN, atN, List.cons_append, List.nil_append] at N1
  k_steps
  unfold Paused
  refine' use_items (n := C 1) (t := K9 1) (vs := V 1) (by omega) hat.a1 (by k_asm) (by k_asm) (by k_asm) (by assumption) (by k_asm) (by exact rfl) ?ud ?uu (fun p hp => tail_of (P := P) 4 rfl p (in3 hat.i1 hat.i2 hat.i3 p hp)) ?_
  case ud => ktr_room
  case uu => ktr_units
  intro D1 n1 h1 tk1 F1 N2 off1
  clear N1 off1 F
  k_steps
  unfold Paused
  refine' use_items (n := C 4) (t := K9 4) (vs := V 4) (by omega) hat.a4 (by k_asm) (by k_asm) (by k_asm) (by assumption) (by k_asm) (by exact rfl) ?ud ?uu (fun p hp => tail_of (P := P) 5 rfl p (in3 hat.i4 hat.i5 hat.i6 p hp)) ?_
  case ud => ktr_room
  case uu => ktr_units
  intro D2 n2 h2 tk2 F2 N3 off2
  have N4 := News.mix (P := P) N3 6 rfl [0, 1] (in4 hat.iL hat.iE hat.i0 hat.i7) [0, 1, 2, 3]
  dsimp only [pickN, atN, List.cons_append, List.nil_append] at N4
  clear N2 N3 off2 F1
  k_steps
  unfold Paused
  rename_i D3 _ F3 N3 l3
  refine comp_eval (ct := none) (by with_unfolding_all rfl) (by rfl) (by decide) ?_
  k_steps
  rename_i hIR FR NR upR
  refine comp_range (n := (V 0).length) (names := [Str.ofString "k"]) (fix := [(D3, _), (D2, W.listOf (V 4).toArray n2), (D1, W.listOf (V 1).toArray n1), (L + 1 + 1 + 1, O 2), (L + 1 + 1, O 3), (A 0, W.listOf (V 0).toArray (C 0)), (A 7, W.listOf (V 7).toArray (C 7))]) (add₀ := P) (J := fun i ys add => DatAll add ys ((List.range i).map fun k => pairD ((evG es k).1, lineOf es k))) (B := fun i vals => ∃ t, vals = [Value.int (i : Int) t]) (by exact rfl) FR NR hIR (range_small (by omega)) (range_size _) (by rw [sizeLine_eq]; omega) (by decide) (by rfl) (by decide) (by decide) (fun i t hi => ⟨[.int (i : Int) t], fun h => by rw [Int.zero_add]; exact .name, rfl, t, rfl⟩) .nil fin_eval (fun I => ?step1) ?fin1
  case step1 =>
    rintro i ys add vals oC C9 D9 m₂ h8 tk8 E8 hi hJ hs ⟨t8, rfl⟩ hC hx F8
    refine AllObj.cons (fun o8 c8 => AllObj.nil (fun N8 off8 => ?_))
    simp only [List.zip_cons_cons, List.zip_nil_right, List.forall_mem_cons] at hx
    obtain ⟨hx8, _⟩ := hx
    dsimp only [List.cons_append, List.nil_append] at N8 hx8
    show wpAny _ _ (eval _ _) (CEnd _ _ _ _ _ _ _ _) _ _
    clear NR FR upR hIR
    obtain ⟨v9, hv9⟩ : ∃ v, (V 0)[i]? = some v := ⟨_, List.getElem?_eq_getElem (by omega)⟩
    obtain ⟨e, Te, t1, t2, t3, n9, he, rfl, hm⟩ := ev_at hat.hE hv9
    obtain ⟨t7, hv7⟩ := str_at hat.hN (show i < es.length by omega)
    have N9 := News.more N8 (tail_of 10 rfl _ (hs _ hm))
    clear N8
    k_steps
    refine' CEnd.mk (by assumption) (by assumption) [(_, _)] ?sub ?off ?dat
    case sub => (repeat' (first | (refine List.forall_mem_cons.mpr ⟨by k_mem, ?_⟩) | exact List.forall_mem_nil _ | (intro p9 hp9; (repeat (first | exact hp9 | refine List.mem_cons_of_mem _ ?_)))))
    case off => (repeat' (first | exact List.forall_mem_nil _ | k_ne | refine List.forall_mem_cons.mpr ⟨?_, ?_⟩))
    case dat => exact dat_snoc hJ (fun p hp => List.mem_cons_of_mem _ hp) (by rw [evG_at he]; exact DatIn.tuple (vs := [_, _]) (n := 0) (List.Mem.head _) (.cons (.str _ _) (.cons (.str _ _) .nil)))
  case fin1 =>
    rintro D4 h9 tk9 ys4 P4 hJ4 hs4 F9 N9 off9 lt9
    dsimp only [List.cons_append, List.nil_append] at N9 lt9
    k_lt lt9
    clear hIR off9 l3
    k_steps
    unfold Paused
    refine comp_eval (ct := none) (by with_unfolding_all rfl) (by rfl) (by decide) ?_
    k_steps
    unfold Paused
    refine' kmk_slice_lit (lo := none) (hi := some 3) ?sF ?sN ?sl ?sp ?sq ?se ?_ ?ss ?st ?sz
    case sF => k_asm
    case sN => k_asm
    case sl => exact PySem.IsL.isList (n := C 0) ((by assumption : News _ _ _ _) (A 0, _) (by k_mem)).1
    case sp => exact IsPart.none
    case sq => exact IsPart.int _ _
    case se => exact pick_upto _ 3
    case ss => with_unfolding_all rfl
    case st => (intro _; with_unfolding_all rfl)
    case sz => rw [List.size_toArray, sizeLine_eq]; omega
    intro D5 h5 F5 N5 l5
    k_lt l5
    k_steps
    unfold Paused
    have hE4 := hat.hE.mono hs4
    have hN4 := hat.hN.mono hs4
    refine comp_enum (vs := (V 0).take 3) (k := 0) (names := [Str.ofString "k", Str.ofString "name", Str.ofString "held", Str.ofString "hour"]) (fix := [(D5, W.listOf ((V 0).take 3).toArray 0), (D4, LCg.lst ys4), (D3, _), (D2, W.listOf (V 4).toArray n2), (D1, W.listOf (V 1).toArray n1), (L + 1 + 1 + 1, O 2), (L + 1 + 1, O 3), (A 0, W.listOf (V 0).toArray (C 0)), (A 7, W.listOf (V 7).toArray (C 7))]) (add₀ := P4) (J := fun i ys add => DatAll add ys ((List.range i).map fun k => pairD ((evG es k).1, row10k es k))) (B := EnVals es) (by exact rfl) F5 N5 (List.Mem.head _) rfl rfl ?sz2 (by decide) (by rfl) (by decide) (by decide) ?hB2 .nil fin_eval (fun I => ?step2) ?fin2
    case sz2 => rw [sizeLine_eq, List.length_take]; omega
    case hB2 =>
      intro i t x T2 h add hx hT2 N' hs
      have hx3 : (V 0)[i]? = some x := by
        rw [List.getElem?_take] at hx
        split at hx
        · exact hx
        · cases hx
      obtain ⟨e, Te, t1, t2, t3, n9, he, rfl, hm⟩ := ev_at hE4 hx3
      exact ⟨[.int (i : Int) t, .str e.1 t1, .int e.2.1 t2, .int (e.2.2 : Int) t3], .two hT2 .name (.three ⟨_, (N' _ (List.mem_append_right _ (hs _ hm))).1, rfl, n9, rfl⟩ .name .name .name), rfl, e, t, t1, t2, t3, he, rfl⟩
    case step2 =>
      rintro i ys add vals oC C9 D8 m₂ h8 tk8 E8 hi hJ hs ⟨e, t8, t1, t2, t3, he, rfl⟩ hC hx F8
      refine AllObj.cons (fun o8 c8 => AllObj.cons fun o7 c7 => AllObj.nil (fun N8 off8 => ?_))
      simp only [List.zip_cons_cons, List.zip_nil_right, List.forall_mem_cons] at hx
      obtain ⟨hx8, hx9, hx10, hx11, _⟩ := hx
      dsimp only [List.cons_append, List.nil_append] at N8 hx8 hx9 hx10 hx11
      show wpAny _ _ (eval _ _) (CEnd _ _ _ _ _ _ _ _) _ _
      clear N5 F5
      have hi2 : i < es.length := (List.getElem?_eq_some_iff.mp he).1
      obtain ⟨t7, hv7⟩ := str_at hN4 hi2
      have hl7 := pl.hll i hi2
      k_steps
      unfold Paused
      refine' item_any (i := i) N8 ?km rfl hv7 (by omega) ?_
      case km => k_mem
      k_steps
      refine' CEnd.mk (by assumption) (by assumption) [(_, _)] ?sub2 ?off2 ?dat2
      case sub2 => (repeat' (first | (refine List.forall_mem_cons.mpr ⟨by k_mem, ?_⟩) | exact List.forall_mem_nil _ | (intro p9 hp9; (repeat (first | exact hp9 | refine List.mem_cons_of_mem _ ?_)))))
      case off2 => (repeat' (first | exact List.forall_mem_nil _ | k_ne | refine List.forall_mem_cons.mpr ⟨?_, ?_⟩))
      case dat2 => exact dat_snoc hJ (fun p hp => List.mem_cons_of_mem _ hp) (by rw [evG_at he]; exact DatIn.tuple (vs := [_, _]) (n := 0) (List.Mem.head _) (.cons (.str _ _) (.cons (.str _ _) .nil)))
    case fin2 =>
      rintro D8 h9 tk9 ys8 P8 hJ8 hs8 F9 N9 off9 lt9
      dsimp only [List.cons_append, List.nil_append] at N9 lt9
      k_lt lt9
      clear off9
      k_steps
      unfold Paused
      rename_i D10 _ FX NX lX
      have e1 : (List.range (V 0).length).map (fun k => pairD ((evG es k).1, lineOf es k)) = (logPairs es).map pairD := by rw [← pl.hA, List.map_map, hvE]; rfl
      have e2 : (List.range ((V 0).take 3).length).map (fun k => pairD ((evG es k).1, row10k es k)) = (plainPairs es).map pairD := by rw [← pl.hB, List.map_map, List.length_take, hvE]; rfl
      rw [e1] at hJ4
      rw [e2] at hJ8
      have up8 := News.tail (P := P8) NX 11 rfl
      have hs9 := fun p hp => hs8 p (hs4 p hp)
      refine' ne_dat (b := true) (xs := [.ref D1, .ref D2]) (ys := [.ref D4, .ref D8]) (ds := [.list ((logPairs es).map pairD), .list ((plainPairs es).map pairD)]) ⟨fun _ => rfl, fun _ => rfl⟩ NX (by k_mem) (.cons (DatIn.list (n := n1) (by k_mem) (hat.hL.mono fun p hp => up8 p (hs9 _ hp))) (.cons (DatIn.list (n := n2) (by k_mem) (hat.hP.mono fun p hp => up8 p (hs9 _ hp))) .nil)) (fun _ h => h) (by k_mem)
        (.cons (DatIn.list (n := ys4.length) (by k_mem) (hJ4.mono fun p hp => up8 p (hs8 _ hp))) (.cons (DatIn.list (n := ys8.length) (by k_mem) (hJ8.mono up8)) .nil)) (fun _ h => h) ?ok1 ?ok2 (by ke_room) ?_
      case ok1 => exact List.forall_mem_cons.mpr ⟨pairs_ok pl.hso, List.forall_mem_cons.mpr ⟨pairs_ok pl.hso2, List.forall_mem_nil _⟩⟩
      case ok2 => exact List.forall_mem_cons.mpr ⟨pairs_ok pl.hso, List.forall_mem_cons.mpr ⟨pairs_ok pl.hso2, List.forall_mem_nil _⟩⟩
      k_steps
      unfold Paused
      exact hnext P8 _ _ (hat.up hs9 FX (News.sub NX up8))
theorem fin : epsP epsC := by with_unfolding_all exact fun T B X pl hat hnext => walk T B X pl hat hnext
end E_law_r2a
theorem law_r2a (w : World) (p : Program) (loose : List Str) (mean : ExcName → Option Value) (mg mb : Str → Option Value) (h₀ : Heap) (L fa : Addr) (cd : Value) (T : Top p loose mean mg mb h₀) (B : Below callerA h₀ [] h₀) (X : (K w.params).In h₀) (s : Shared) (es : List Ev) (pp : List Nat) (pl : Plain9 es pp) (A : Nat → Addr) (V : Nat → List Value) (C : Nat → Nat) (O : Nat → Obj) (K9 : Nat → Tok) (m : Str → Option Value) (P : Led) (hat : At w h₀ L es pp A V C O K9 m P s.heap) (Q : Flow → Shared → Prop) (E : Value → Shared → Prop) (hnext : ∀ P h tk, At w h₀ L es pp A V C O K9 m P h → wpAny (model prog w) (callerA.deeper (lawE L fa cd)) (execs (fLaw.1.2.1.drop 5) (lawE L fa cd)) Q E { s with heap := h, toks := tk }) : wpAny (model prog w) (callerA.deeper (lawE L fa cd)) (execs (fLaw.1.2.1.drop 4) (lawE L fa cd)) Q E s := of_worst (P := E_law_r2a.epsP) (h := E_law_r2a.epsN) (by with_unfolding_all exact E_law_r2a.fin) (w, p, loose, mean, mg, mb, h₀, L, fa, cd, s, es, pp, A, V, C, O, K9, m, P, Q, E) T B X pl hat hnext
end
end
theorem sweepP24a {M : Model} {A : Around} {env : Env} {Q : Flow → Shared → Prop} {E : Value → Shared → Prop} {s : Shared} (h : wpAny M A (execs [] env) Q E s) : wpAny M A (execs [] env) Q E s := by w_top off; first | (walk1; fail "swept") | exact h
section
open PyProof.V PySem.Spec
local macro_rules | `(tactic| walk_at "execs cons") => `(tactic| k_extra "mv4")
local macro_rules | `(tactic| walk_at "execs cons") => `(tactic| k_extra "mv35")
theorem sweepP24 {M : Model} {A : Around} {env : Env} {Q : Flow → Shared → Prop} {E : Value → Shared → Prop} {s : Shared} (h : wpAny M A (execs [] env) Q E s) : wpAny M A (execs [] env) Q E s := by w_top off; first | (walk1; fail "swept") | exact h
section
open PyProof.V PySem.Spec
theorem last_at {pool : Led} {vs : List Value} {rs : List Ev} {i : Nat} {v : Value} (hd : DatAll pool vs (rs.map lastD)) (hv : vs[i]? = some v) :
    ∃ e T t1 t2 n, rs[i]? = some e ∧ v = .ref T ∧ (T, ({ cls := .type "tuple", data := .seq #[Value.str e.1 t1, Value.int e.2.1 t2] n } : Obj)) ∈ pool := by
  have hi : i < (rs.map lastD).length := by rw [← hd.length]; exact (List.getElem?_eq_some_iff.mp hv).1
  obtain ⟨v', hv', hD⟩ := hd.get hi
  rw [hv] at hv'
  cases hv'
  rw [List.getElem_map] at hD
  have hi' : i < rs.length := by rw [List.length_map] at hi; exact hi
  obtain ⟨T, x, y, n, rfl, hm, h1, h2⟩ := in_two9 hD
  obtain ⟨t1, rfl⟩ := in_str9 h1
  obtain ⟨t2, rfl⟩ := in_int9 h2
  exact ⟨rs[i], T, t1, t2, n, List.getElem?_eq_getElem hi', rfl, hm⟩
noncomputable def LastVals (rs : List Ev) (i : Nat) (vals : List Value) : Prop := ∃ e t1 t2, rs[i]? = some e ∧ vals = [Value.str e.1 t1, Value.int e.2.1 t2]
noncomputable abbrev wrD (e : Ev) : Dat := pairD (e.1, writtenStr e.2.1)
noncomputable abbrev sortD (es : List Ev) (k : Nat) : Dat := .tuple [.int ((evG es k).2.2 : Int), .str (evG es k).1, .str (row10k es k)]
theorem keys_of2 (es : List Ev) {led : Led} : ∀ {l : List Nat} {ys : List Value}, DatAll led ys (l.map (sortD es)) → KeysAt led ys (l.map fun k => (evG es k).2.2)
  | [], ys, h => by obtain rfl := all_nil9 h; trivial
  | r :: rs, ys, h => by
    obtain ⟨y, ys, rfl, h1, h2⟩ := all_cons9 h
    obtain ⟨T, vs, n, rfl, hm, h3⟩ := in_tup9 h1
    obtain ⟨v, ws, rfl, h4, h3⟩ := all_cons9 h3
    obtain ⟨t, rfl⟩ := in_int9 h4
    exact ⟨⟨_, _, _, _, rfl, hm⟩, keys_of2 es h2⟩
theorem dat_pickG {led : Led} {ys : List Value} {n : Nat} {d : Nat → Dat} (h : DatAll led ys ((List.range n).map d)) : ∀ (p : List Nat), (∀ i ∈ p, i < n) → DatAll led (p.map fun i => ys.getD i Value.none) (p.map d)
  | [], _ => .nil
  | i :: p, hp => by
    have hi := hp i (.head _)
    obtain ⟨v, hv, hd⟩ := h.get (k := i) (by rw [List.length_map, List.length_range]; exact hi)
    rw [List.getElem_map, List.getElem_range] at hd
    refine .cons ?_ (dat_pickG h p fun j hj => hp j (.tail _ hj))
    have e1 : ys.getD i Value.none = v := by rw [List.getD_eq_getElem?_getD, hv]; rfl
    dsimp only
    rw [e1]
    exact hd
theorem hours_range (es : List Ev) : (List.range es.length).map (fun k => (evG es k).2.2) = hoursOf es := by
  have q := congrArg (List.map fun e : Ev => e.2.2) (range_evG es)
  rw [List.map_map] at q
  exact q
theorem popd_ok {x y : Str} {h : Int} (h1 : PyData.strOk x = true) (h2 : PyData.strOk y = true) : kqdOk 8 (.tuple [.int h, .str x, .str y]) = true := by
  show [Dat.int h, Dat.str x, Dat.str y].all (kqdOk 7) = true
  simp only [List.all_cons, List.all_nil, kqdOk, h1, h2, Bool.and_self]
theorem pair_ok {q : Str × Str} (h : PyData.strOk q.1 = true ∧ PyData.strOk q.2 = true) : kqdOk 8 (pairD q) = true := by
  show [Dat.str q.1, Dat.str q.2].all (kqdOk 7) = true
  simp only [List.all_cons, List.all_nil, kqdOk, h.1, h.2, Bool.and_self]
namespace E_law_r2c
noncomputable def epsP (q : World × Program × (List Str) × (ExcName → Option Value) × (Str → Option Value) × (Str → Option Value) × Heap × Addr × Addr × Value × Shared × (List Ev) × (List Nat) × (Nat → Addr) × (Nat → List Value) × (Nat → Nat) × (Nat → Obj) × (Nat → Tok) × (Str → Option Value) × Led × (Flow → Shared → Prop) × (Value → Shared → Prop)) : Prop := (fun (w : World) (p : Program) (loose : List Str) (mean : ExcName → Option Value) (mg : Str → Option Value) (mb : Str → Option Value) (h₀ : Heap) (L : Addr) (fa : Addr) (cd : Value) (s : Shared) (es : List Ev) (pp : List Nat) (A : Nat → Addr) (V : Nat → List Value) (C : Nat → Nat) (O : Nat → Obj) (K9 : Nat → Tok) (m : Str → Option Value) (P : Led) (Q : Flow → Shared → Prop) (E : Value → Shared → Prop) => ∀ (T : Top p loose mean mg mb h₀) (B : Below callerA h₀ [] h₀) (X : (K w.params).In h₀) (pl : Plain9 es pp) (hat : At w h₀ L es pp A V C O K9 m P s.heap) (hnext : ∀ P h tk, At w h₀ L es pp A V C O K9 m P h → wpAny (model prog w) (callerA.deeper (lawE L fa cd)) (execs (fLaw.1.2.1.drop 7) (lawE L fa cd)) Q E { s with heap := h, toks := tk }), wpAny (model prog w) (callerA.deeper (lawE L fa cd)) (execs (fLaw.1.2.1.drop 6) (lawE L fa cd)) Q E s) q.1 q.2.1 q.2.2.1 q.2.2.2.1 q.2.2.2.2.1 q.2.2.2.2.2.1 q.2.2.2.2.2.2.1 q.2.2.2.2.2.2.2.1 q.2.2.2.2.2.2.2.2.1 q.2.2.2.2.2.2.2.2.2.1 q.2.2.2.2.2.2.2.2.2.2.1 q.2.2.2.2.2.2.2.2.2.2.2.1 q.2.2.2.2.2.2.2.2.2.2.2.2.1 q.2.2.2.2.2.2.2.2.2.2.2.2.2.1 q.2.2.2.2.2.2.2.2.2.2.2.2.2.2.1 q.2.2.2.2.2.2.2.2.2.2.2.2.2.2.2.1 q.2.2.2.2.2.2.2.2.2.2.2.2.2.2.2.2.1 q.2.2.2.2.2.2.2.2.2.2.2.2.2.2.2.2.2.1 q.2.2.2.2.2.2.2.2.2.2.2.2.2.2.2.2.2.2.1 q.2.2.2.2.2.2.2.2.2.2.2.2.2.2.2.2.2.2.2.1 q.2.2.2.2.2.2.2.2.2.2.2.2.2.2.2.2.2.2.2.2.1 q.2.2.2.2.2.2.2.2.2.2.2.2.2.2.2.2.2.2.2.2.2
theorem epsN : Nonempty (World × Program × (List Str) × (ExcName → Option Value) × (Str → Option Value) × (Str → Option Value) × Heap × Addr × Addr × Value × Shared × (List Ev) × (List Nat) × (Nat → Addr) × (Nat → List Value) × (Nat → Nat) × (Nat → Obj) × (Nat → Tok) × (Str → Option Value) × Led × (Flow → Shared → Prop) × (Value → Shared → Prop)) := ⟨(Classical.choice neWorld, default, default, default, default, default, default, default, default, default, {}, default, default, default, default, default, default, default, default, default, default, default)⟩
@[irreducible] noncomputable def epsC : World × Program × (List Str) × (ExcName → Option Value) × (Str → Option Value) × (Str → Option Value) × Heap × Addr × Addr × Value × Shared × (List Ev) × (List Nat) × (Nat → Addr) × (Nat → List Value) × (Nat → Nat) × (Nat → Obj) × (Nat → Tok) × (Str → Option Value) × Led × (Flow → Shared → Prop) × (Value → Shared → Prop) := worst epsN epsP
@[irreducible] noncomputable def w : World := epsC.1
@[irreducible] noncomputable def p : Program := epsC.2.1
@[irreducible] noncomputable def loose : List Str := epsC.2.2.1
@[irreducible] noncomputable def mean : ExcName → Option Value := epsC.2.2.2.1
@[irreducible] noncomputable def mg : Str → Option Value := epsC.2.2.2.2.1
@[irreducible] noncomputable def mb : Str → Option Value := epsC.2.2.2.2.2.1
@[irreducible] noncomputable def h₀ : Heap := epsC.2.2.2.2.2.2.1
@[irreducible] noncomputable def L : Addr := epsC.2.2.2.2.2.2.2.1
@[irreducible] noncomputable def fa : Addr := epsC.2.2.2.2.2.2.2.2.1
@[irreducible] noncomputable def cd : Value := epsC.2.2.2.2.2.2.2.2.2.1
@[irreducible] noncomputable def s : Shared := epsC.2.2.2.2.2.2.2.2.2.2.1
@[irreducible] noncomputable def es : List Ev := epsC.2.2.2.2.2.2.2.2.2.2.2.1
@[irreducible] noncomputable def pp : List Nat := epsC.2.2.2.2.2.2.2.2.2.2.2.2.1
@[irreducible] noncomputable def A : Nat → Addr := epsC.2.2.2.2.2.2.2.2.2.2.2.2.2.1
@[irreducible] noncomputable def V : Nat → List Value := epsC.2.2.2.2.2.2.2.2.2.2.2.2.2.2.1
@[irreducible] noncomputable def C : Nat → Nat := epsC.2.2.2.2.2.2.2.2.2.2.2.2.2.2.2.1
@[irreducible] noncomputable def O : Nat → Obj := epsC.2.2.2.2.2.2.2.2.2.2.2.2.2.2.2.2.1
@[irreducible] noncomputable def K9 : Nat → Tok := epsC.2.2.2.2.2.2.2.2.2.2.2.2.2.2.2.2.2.1
@[irreducible] noncomputable def m : Str → Option Value := epsC.2.2.2.2.2.2.2.2.2.2.2.2.2.2.2.2.2.2.1
@[irreducible] noncomputable def P : Led := epsC.2.2.2.2.2.2.2.2.2.2.2.2.2.2.2.2.2.2.2.1
@[irreducible] noncomputable def Q : Flow → Shared → Prop := epsC.2.2.2.2.2.2.2.2.2.2.2.2.2.2.2.2.2.2.2.2.1
@[irreducible] noncomputable def E : Value → Shared → Prop := epsC.2.2.2.2.2.2.2.2.2.2.2.2.2.2.2.2.2.2.2.2.2
theorem walk (T : Top p loose mean mg mb h₀) (B : Below callerA h₀ [] h₀) (X : (K w.params).In h₀) (pl : Plain9 es pp) (hat : At w h₀ L es pp A V C O K9 m P s.heap) (hnext : ∀ P h tk, At w h₀ L es pp A V C O K9 m P h → wpAny (model prog w) (callerA.deeper (lawE L fa cd)) (execs (fLaw.1.2.1.drop 7) (lawE L fa cd)) Q E { s with heap := h, toks := tk }) : wpAny (model prog w) (callerA.deeper (lawE L fa cd)) (execs (fLaw.1.2.1.drop 6) (lawE L fa cd)) Q E s := by
  have hlen := pl.hlen
  have hvE := hat.vE
  have hvN := hat.vN
  have hvQ := hat.vQ
  have hvT := hat.vT
  have mQ := hat.mQ
  have mZ := hat.mZ
  have F := hat.F
  have cL := hat.cL
  have cE := hat.cE
  have cT := hat.cT
  dsimp only [List.drop] at hnext ⊢
  have N1 := News.ahead hat.N (in4 hat.iL hat.iE hat.i0 hat.i7)
  dsimp only [pickN, atN, List.cons_append, List.nil_append] at N1
  k_steps
  unfold Paused
  refine comp_eval (ct := none) (by with_unfolding_all rfl) (by rfl) (by decide) ?_
  k_steps
  rename_i hIR FR NR upR
  refine comp_range (n := (V 0).length) (names := [Str.ofString "k"]) (fix := [(L + 1 + 1 + 1, O 2), (L + 1 + 1, O 3), (A 0, W.listOf (V 0).toArray (C 0)), (A 7, W.listOf (V 7).toArray (C 7))]) (add₀ := P) (J := fun i ys add => DatAll add ys ((List.range i).map (sortD es))) (B := fun i vals => ∃ t, vals = [Value.int (i : Int) t]) (by exact rfl) FR NR hIR (range_small (by omega)) (range_size _) (by rw [sizeLine_eq]; omega) (by decide) (by rfl) (by decide) (by decide) (fun i t hi => ⟨[.int (i : Int) t], fun h => by rw [Int.zero_add]; exact .name, rfl, t, rfl⟩) .nil fin_eval (fun I => ?step1) ?fin1
  case step1 =>
    rintro i ys add vals oC C9 D9 m₂ h8 tk8 E8 hi hJ hs ⟨t8, rfl⟩ hC hx F8
    refine AllObj.cons (fun o8 c8 => AllObj.nil (fun N8 off8 => ?_))
    simp only [List.zip_cons_cons, List.zip_nil_right, List.forall_mem_cons] at hx
    obtain ⟨hx8, _⟩ := hx
    dsimp only [List.cons_append, List.nil_append] at N8 hx8
    show wpAny _ _ (eval _ _) (CEnd _ _ _ _ _ _ _ _) _ _
    clear NR FR upR hIR
    obtain ⟨v9, hv9⟩ : ∃ v, (V 0)[i]? = some v := ⟨_, List.getElem?_eq_getElem (by omega)⟩
    obtain ⟨e, Te, t1, t2, t3, n9, he, rfl, hm⟩ := ev_at hat.hE hv9
    obtain ⟨t7, hv7⟩ := str_at hat.hN (show i < es.length by omega)
    have hl7 := pl.hll i (by omega)
    have N9 := News.more N8 (tail_of 7 rfl _ (hs _ hm))
    clear N8
    k_steps
    refine' CEnd.mk (by assumption) (by assumption) [(_, _)] ?sub ?off ?dat
    case sub => (repeat' (first | (refine List.forall_mem_cons.mpr ⟨by k_mem, ?_⟩) | exact List.forall_mem_nil _ | (intro p9 hp9; (repeat (first | exact hp9 | refine List.mem_cons_of_mem _ ?_)))))
    case off => (repeat' (first | exact List.forall_mem_nil _ | k_ne | refine List.forall_mem_cons.mpr ⟨?_, ?_⟩))
    case dat => exact dat_snoc hJ (fun p hp => List.mem_cons_of_mem _ hp) (by rw [sortD, row10k, evG_at he]; exact DatIn.tuple (vs := [_, _, _]) (n := 0) (List.Mem.head _) (.cons (.int _ _) (.cons (.str _ _) (.cons (.str _ _) .nil))))
  case fin1 =>
    rintro D4 h9 tk9 ys4 P4 hJ4 hs4 F9 N9 off9 lt9
    dsimp only [List.cons_append, List.nil_append] at N9 lt9
    rw [hvE] at hJ4
    have hy4 : ys4.length = es.length := by rw [hJ4.length, List.length_map, List.length_range]
    clear hIR off9 lt9
    k_steps
    unfold Paused
    refine sorted_keys (ks := hoursOf es) (p := pp) (by assumption) N9 (PySem.IsL.isList (n := ys4.length) (N9 _ (List.Mem.head _)).1) ((hours_range es ▸ keys_of2 es hJ4).mono (News.tail (P := P4) N9 5 rfl)) (by have := pl.h2; omega) (by omega) (by rw [hy4]; exact pl.hpp) ?_
    intro D5 c5 h5 F5 N5 l5
    have hS := dat_pickG hJ4 pp pl.hpb
    rw [← pl.hC] at hS
    generalize (pp.map fun i => ys4.getD i Value.none) = ys5 at hS N5
    have N6 := News.mix (P := P4) N5 6 rfl [0] (in4 (hs4 _ hat.iT) (hs4 _ hat.i10) (hs4 _ hat.i11) (hs4 _ hat.i8)) [0, 1, 2, 3]
    dsimp only [pickN, atN, List.cons_append, List.nil_append] at N6
    clear N5 N9 l5
    k_steps
    unfold Paused
    have up6 := News.tail (P := P4) N6 5 rfl
    refine' ne_dat (b := true) ⟨fun _ => rfl, fun _ => rfl⟩ N6 (up6 _ (hs4 _ hat.i12)) hat.hQ (fun p hp => up6 p (hs4 p hp)) (List.Mem.head _) hS up6 ?ok1 ?ok2 (by ke_room) ?_
    case ok1 => (intro d hd; obtain ⟨k, hk, rfl⟩ := List.mem_map.mp hd; have := pl.hsoQ k (List.mem_range.mp hk); exact popd_ok this.1 this.2)
    case ok2 => (intro d hd; obtain ⟨k, hk, rfl⟩ := List.mem_map.mp hd; have := pl.hsoQ k (List.mem_range.mp hk); exact popd_ok this.1 this.2)
    k_steps
    unfold Paused
    refine' use_items (n := C 9) (t := K9 9) (vs := V 9) (by omega) hat.a9 (by k_asm) (by k_asm) (by k_asm) (by assumption) (by k_asm) (by exact rfl) ?ud ?uu (fun p hp => up6 p (hs4 p (in3 hat.i9 hat.i10 hat.i11 p hp))) ?_
    case ud => ktr_room
    case uu => ktr_units
    intro D6 n6 h6 tk6 F6 N7 off6
    have N8 := News.mix (P := P4) N7 6 rfl [0, 5] (es := []) (fun _ h => nomatch h) []
    dsimp only [pickN, atN, List.cons_append, List.nil_append] at N8
    clear N7 N6 off6 F5
    k_steps
    unfold Paused
    refine comp_eval (ct := none) (by with_unfolding_all rfl) (by rfl) (by decide) ?_
    k_steps
    have hZ4 := hat.hZ.mono hs4
    have hv8 : (V 8).length = (lastOf (pp.map (evG es))).length := by rw [hat.hZ.length, List.length_map]
    have hl8 : (lastOf (pp.map (evG es))).length ≤ es.length := by
      unfold lastOf
      refine Nat.le_trans (List.length_filterMap_le _ _) ?_
      rw [List.length_range, List.length_map, pl.hpl]
      exact Nat.le_refl _
    have hDl : (lastOf (pp.map (evG es))).map wrD = (tabN (tabOf es) es.length).map pairD := by rw [← pl.hD, List.map_map]; rfl
    have hok8 := pl.hlast
    generalize lastOf (pp.map (evG es)) = rs at hZ4 hv8 hl8 hDl hok8
    refine comp_list (names := [Str.ofString "name", Str.ofString "held"]) (fix := [(D6, W.listOf (V 9).toArray n6), (A 8, W.listOf (V 8).toArray (C 8))]) (add₀ := P4) (J := fun i ys add => DatAll add ys ((List.range i).map fun k => wrD (evG rs k))) (B := LastVals rs) (by exact rfl) F6 N8 (by k_mem) rfl rfl (by rw [sizeLine_eq]; omega) (by decide) (by rfl) (by decide) (by decide) ?hB4 .nil fin_eval (fun I => ?step4) ?fin4
    case hB4 =>
      intro i v h add hv N' hs
      obtain ⟨e, T, t1, t2, n9, he, rfl, hm⟩ := last_at hZ4 hv
      exact ⟨_, .two ⟨_, (N' _ (List.mem_append_right _ (hs _ hm))).1, rfl, n9, rfl⟩ .name .name, rfl, e, t1, t2, he, rfl⟩
    case step4 =>
      rintro i ys add vals oC C9 D9 m₂ h8 tk8 E8 hi hJ hs ⟨e, t1, t2, he, rfl⟩ hC hx F8
      refine AllObj.cons (fun o8 c8 => AllObj.nil (fun N9 off8 => ?_))
      simp only [List.zip_cons_cons, List.zip_nil_right, List.forall_mem_cons] at hx
      obtain ⟨hx1, hx2, _⟩ := hx
      dsimp only [List.cons_append, List.nil_append] at N9 hx1 hx2
      show wpAny _ _ (eval _ _) (CEnd _ _ _ _ _ _ _ _) _ _
      clear N8
      obtain ⟨k1, k2, k3, k4⟩ := hok8 e (List.mem_of_getElem? he)
      k_steps
      unfold Paused
      refine' use_read [] (written_spec w e.2.1 _ k2 k3) (fun _ _ _ p hp => nomatch hp) (by k_asm) (by k_asm) (by k_asm) (by assumption) (by k_asm) (by exact rfl) ?ud ?uu (List.forall_mem_nil _) ?_
      case ud => ktr_room
      case uu => ktr_units
      rintro v5 h5 tk5 new5 F5 N5 ⟨t5, rfl⟩
      have N10 := News.sub N5 (fun p hp => List.mem_append_right _ hp)
      clear N5
      k_steps
      refine' CEnd.mk (by assumption) (by assumption) [(_, _)] ?sub4 ?off4 ?dat4
      case sub4 => (repeat' (first | (refine List.forall_mem_cons.mpr ⟨by k_mem, ?_⟩) | exact List.forall_mem_nil _ | (intro p9 hp9; (repeat (first | exact hp9 | refine List.mem_cons_of_mem _ ?_)))))
      case off4 => (repeat' (first | exact List.forall_mem_nil _ | k_ne | refine List.forall_mem_cons.mpr ⟨?_, ?_⟩))
      case dat4 => exact dat_snoc hJ (fun p hp => List.mem_cons_of_mem _ hp) (by rw [evG_at he]; exact DatIn.tuple (vs := [_, _]) (n := 0) (List.Mem.head _) (.cons (.str _ _) (.cons (.str _ _) .nil)))
    case fin4 =>
      rintro D7 h9 tk9 ys7 P7 hJ7 hs7 FX NX off9 lt9
      dsimp only [List.cons_append, List.nil_append] at NX lt9
      have e7 : (List.range (V 8).length).map (fun k => wrD (evG rs k)) = (tabN (tabOf es) es.length).map pairD := by rw [hv8, ← hDl]; exact range_mapG rs wrD
      rw [e7] at hJ7
      clear off9 lt9
      k_steps
      unfold Paused
      have up7 := News.tail (P := P7) NX 3 rfl
      have hs9 := fun p hp => hs7 p (hs4 p hp)
      have hokT : ∀ d ∈ (tabN (tabOf es) es.length).map pairD, kqdOk 8 d = true := fun d hd => by
        obtain ⟨q, hq, rfl⟩ := List.mem_map.mp hd
        exact pair_ok (pl.hsoT q hq)
      refine' ne_dat (b := true) ⟨fun _ => rfl, fun _ => rfl⟩ NX (by k_mem) hat.hT (fun p hp => up7 p (hs9 p hp)) (List.Mem.head _) hJ7 up7 hokT hokT (by ke_room) ?_
      k_steps
      unfold Paused
      exact hnext P7 _ _ (hat.up hs9 FX (News.sub NX up7))
theorem fin : epsP epsC := by with_unfolding_all exact fun T B X pl hat hnext => walk T B X pl hat hnext
end E_law_r2c
theorem law_r2c (w : World) (p : Program) (loose : List Str) (mean : ExcName → Option Value) (mg mb : Str → Option Value) (h₀ : Heap) (L fa : Addr) (cd : Value) (T : Top p loose mean mg mb h₀) (B : Below callerA h₀ [] h₀) (X : (K w.params).In h₀) (s : Shared) (es : List Ev) (pp : List Nat) (pl : Plain9 es pp) (A : Nat → Addr) (V : Nat → List Value) (C : Nat → Nat) (O : Nat → Obj) (K9 : Nat → Tok) (m : Str → Option Value) (P : Led) (hat : At w h₀ L es pp A V C O K9 m P s.heap) (Q : Flow → Shared → Prop) (E : Value → Shared → Prop) (hnext : ∀ P h tk, At w h₀ L es pp A V C O K9 m P h → wpAny (model prog w) (callerA.deeper (lawE L fa cd)) (execs (fLaw.1.2.1.drop 7) (lawE L fa cd)) Q E { s with heap := h, toks := tk }) : wpAny (model prog w) (callerA.deeper (lawE L fa cd)) (execs (fLaw.1.2.1.drop 6) (lawE L fa cd)) Q E s := of_worst (P := E_law_r2c.epsP) (h := E_law_r2c.epsN) (by with_unfolding_all exact E_law_r2c.fin) (w, p, loose, mean, mg, mb, h₀, L, fa, cd, s, es, pp, A, V, C, O, K9, m, P, Q, E) T B X pl hat hnext
end
end
theorem sweepP25a {M : Model} {A : Around} {env : Env} {Q : Flow → Shared → Prop} {E : Value → Shared → Prop} {s : Shared} (h : wpAny M A (execs [] env) Q E s) : wpAny M A (execs [] env) Q E s := by w_top off; first | (walk1; fail "swept") | exact h
section
open PyProof.V PySem.Spec
local macro_rules | `(tactic| walk_at "binaryOp Mult ref int") => `(tactic| refine Paused.intro ?_)
section
open PyProof.V PySem.Spec
local macro_rules | `(tactic| walk_at "execs cons") => `(tactic| k_extra "mv4")
local macro_rules | `(tactic| walk_at "execs cons") => `(tactic| ((with_reducible show wpAny _ _ (execs (Stmt.Assign _ _ _ :: _) _) _ _ _); refine Paused.intro ?_))
theorem sweepP25 {M : Model} {A : Around} {env : Env} {Q : Flow → Shared → Prop} {E : Value → Shared → Prop} {s : Shared} (h : wpAny M A (execs [] env) Q E s) : wpAny M A (execs [] env) Q E s := by w_top off; first | (walk1; fail "swept") | exact h
section
open PyProof.V PySem.Spec
theorem got_is {cells n : Led} {v dv : Value} {q : Str × Str} {o : Option (Str × Str)} (h : GotFirst cells dv o n v) (e : o = some q) : ∃ t, v = .str q.2 t := by
  subst e
  exact h.1
noncomputable abbrev NameV (nm v : Str) : Prop := Plain (Txt.lower v) ∧ (Txt.lower v).length ≤ 10 ∧ v.length ≤ 10 ∧ Txt.lower v = Txt.lower nm
theorem var1 : ∀ nm ∈ menu, NameV nm (Txt.lower nm) := by decide +kernel
theorem var2 : ∀ nm ∈ menu, NameV nm (Txt.upper nm) := by decide +kernel
theorem name_pos : ∀ nm ∈ menu, 1 ≤ nm.length := by decide +kernel
theorem var3 : ∀ nm ∈ menu, NameV nm (Txt.upper (Txt.item nm 0) ++ Txt.lower (Txt.slice nm (some 1) none)) := by decide +kernel
noncomputable abbrev thrD (e : Ev) : Dat := .list [.str (writtenStr e.2.1), .str (writtenStr e.2.1), .str (writtenStr e.2.1)]
theorem thr_ok {e : Ev} (h : PyData.strOk (writtenStr e.2.1) = true) : kqdOk 8 (thrD e) = true := by
  show [Dat.str (writtenStr e.2.1), Dat.str (writtenStr e.2.1), Dat.str (writtenStr e.2.1)].all (kqdOk 7) = true
  simp only [List.all_cons, List.all_nil, kqdOk, h, Bool.and_self]
namespace E_law_r2d
noncomputable def epsP (q : World × Program × (List Str) × (ExcName → Option Value) × (Str → Option Value) × (Str → Option Value) × Heap × Addr × Addr × Value × Shared × (List Ev) × (List Nat) × (Nat → Addr) × (Nat → List Value) × (Nat → Nat) × (Nat → Obj) × (Nat → Tok) × (Str → Option Value) × Led × (Flow → Shared → Prop) × (Value → Shared → Prop)) : Prop := (fun (w : World) (p : Program) (loose : List Str) (mean : ExcName → Option Value) (mg : Str → Option Value) (mb : Str → Option Value) (h₀ : Heap) (L : Addr) (fa : Addr) (cd : Value) (s : Shared) (es : List Ev) (pp : List Nat) (A : Nat → Addr) (V : Nat → List Value) (C : Nat → Nat) (O : Nat → Obj) (K9 : Nat → Tok) (m : Str → Option Value) (P : Led) (Q : Flow → Shared → Prop) (E : Value → Shared → Prop) => ∀ (T : Top p loose mean mg mb h₀) (B : Below callerA h₀ [] h₀) (X : (K w.params).In h₀) (pl : Plain9 es pp) (hat : At w h₀ L es pp A V C O K9 m P s.heap) (hnext : ∀ P h tk, At w h₀ L es pp A V C O K9 m P h → wpAny (model prog w) (callerA.deeper (lawE L fa cd)) (execs (fLaw.1.2.1.drop 8) (lawE L fa cd)) Q E { s with heap := h, toks := tk }), wpAny (model prog w) (callerA.deeper (lawE L fa cd)) (execs (fLaw.1.2.1.drop 7) (lawE L fa cd)) Q E s) q.1 q.2.1 q.2.2.1 q.2.2.2.1 q.2.2.2.2.1 q.2.2.2.2.2.1 q.2.2.2.2.2.2.1 q.2.2.2.2.2.2.2.1 q.2.2.2.2.2.2.2.2.1 q.2.2.2.2.2.2.2.2.2.1 q.2.2.2.2.2.2.2.2.2.2.1 q.2.2.2.2.2.2.2.2.2.2.2.1 q.2.2.2.2.2.2.2.2.2.2.2.2.1 q.2.2.2.2.2.2.2.2.2.2.2.2.2.1 q.2.2.2.2.2.2.2.2.2.2.2.2.2.2.1 q.2.2.2.2.2.2.2.2.2.2.2.2.2.2.2.1 q.2.2.2.2.2.2.2.2.2.2.2.2.2.2.2.2.1 q.2.2.2.2.2.2.2.2.2.2.2.2.2.2.2.2.2.1 q.2.2.2.2.2.2.2.2.2.2.2.2.2.2.2.2.2.2.1 q.2.2.2.2.2.2.2.2.2.2.2.2.2.2.2.2.2.2.2.1 q.2.2.2.2.2.2.2.2.2.2.2.2.2.2.2.2.2.2.2.2.1 q.2.2.2.2.2.2.2.2.2.2.2.2.2.2.2.2.2.2.2.2.2
theorem epsN : Nonempty (World × Program × (List Str) × (ExcName → Option Value) × (Str → Option Value) × (Str → Option Value) × Heap × Addr × Addr × Value × Shared × (List Ev) × (List Nat) × (Nat → Addr) × (Nat → List Value) × (Nat → Nat) × (Nat → Obj) × (Nat → Tok) × (Str → Option Value) × Led × (Flow → Shared → Prop) × (Value → Shared → Prop)) := ⟨(Classical.choice neWorld, default, default, default, default, default, default, default, default, default, {}, default, default, default, default, default, default, default, default, default, default, default)⟩
@[irreducible] noncomputable def epsC : World × Program × (List Str) × (ExcName → Option Value) × (Str → Option Value) × (Str → Option Value) × Heap × Addr × Addr × Value × Shared × (List Ev) × (List Nat) × (Nat → Addr) × (Nat → List Value) × (Nat → Nat) × (Nat → Obj) × (Nat → Tok) × (Str → Option Value) × Led × (Flow → Shared → Prop) × (Value → Shared → Prop) := worst epsN epsP
@[irreducible] noncomputable def w : World := epsC.1
@[irreducible] noncomputable def p : Program := epsC.2.1
@[irreducible] noncomputable def loose : List Str := epsC.2.2.1
@[irreducible] noncomputable def mean : ExcName → Option Value := epsC.2.2.2.1
@[irreducible] noncomputable def mg : Str → Option Value := epsC.2.2.2.2.1
@[irreducible] noncomputable def mb : Str → Option Value := epsC.2.2.2.2.2.1
@[irreducible] noncomputable def h₀ : Heap := epsC.2.2.2.2.2.2.1
@[irreducible] noncomputable def L : Addr := epsC.2.2.2.2.2.2.2.1
@[irreducible] noncomputable def fa : Addr := epsC.2.2.2.2.2.2.2.2.1
@[irreducible] noncomputable def cd : Value := epsC.2.2.2.2.2.2.2.2.2.1
@[irreducible] noncomputable def s : Shared := epsC.2.2.2.2.2.2.2.2.2.2.1
@[irreducible] noncomputable def es : List Ev := epsC.2.2.2.2.2.2.2.2.2.2.2.1
@[irreducible] noncomputable def pp : List Nat := epsC.2.2.2.2.2.2.2.2.2.2.2.2.1
@[irreducible] noncomputable def A : Nat → Addr := epsC.2.2.2.2.2.2.2.2.2.2.2.2.2.1
@[irreducible] noncomputable def V : Nat → List Value := epsC.2.2.2.2.2.2.2.2.2.2.2.2.2.2.1
@[irreducible] noncomputable def C : Nat → Nat := epsC.2.2.2.2.2.2.2.2.2.2.2.2.2.2.2.1
@[irreducible] noncomputable def O : Nat → Obj := epsC.2.2.2.2.2.2.2.2.2.2.2.2.2.2.2.2.1
@[irreducible] noncomputable def K9 : Nat → Tok := epsC.2.2.2.2.2.2.2.2.2.2.2.2.2.2.2.2.2.1
@[irreducible] noncomputable def m : Str → Option Value := epsC.2.2.2.2.2.2.2.2.2.2.2.2.2.2.2.2.2.2.1
@[irreducible] noncomputable def P : Led := epsC.2.2.2.2.2.2.2.2.2.2.2.2.2.2.2.2.2.2.2.1
@[irreducible] noncomputable def Q : Flow → Shared → Prop := epsC.2.2.2.2.2.2.2.2.2.2.2.2.2.2.2.2.2.2.2.2.1
@[irreducible] noncomputable def E : Value → Shared → Prop := epsC.2.2.2.2.2.2.2.2.2.2.2.2.2.2.2.2.2.2.2.2.2
theorem walk (T : Top p loose mean mg mb h₀) (B : Below callerA h₀ [] h₀) (X : (K w.params).In h₀) (pl : Plain9 es pp) (hat : At w h₀ L es pp A V C O K9 m P s.heap) (hnext : ∀ P h tk, At w h₀ L es pp A V C O K9 m P h → wpAny (model prog w) (callerA.deeper (lawE L fa cd)) (execs (fLaw.1.2.1.drop 8) (lawE L fa cd)) Q E { s with heap := h, toks := tk }) : wpAny (model prog w) (callerA.deeper (lawE L fa cd)) (execs (fLaw.1.2.1.drop 7) (lawE L fa cd)) Q E s := by
  have hlen := pl.hlen
  have hvT := hat.vT
  have mZ := hat.mZ
  have F := hat.F
  have cT := hat.cT
  dsimp only [List.drop] at hnext ⊢
  have N1 := News.ahead hat.N (in4 hat.iT hat.i10 hat.i11 hat.i8)
  dsimp only [pickN, atN, List.cons_append, List.nil_append] at N1
  k_steps
  unfold Paused
  refine comp_eval (ct := none) (by with_unfolding_all rfl) (by rfl) (by decide) ?_
  k_steps
  have hZ4 := hat.hZ
  have hv8 : (V 8).length = (lastOf (pp.map (evG es))).length := by rw [hat.hZ.length, List.length_map]
  have hl8 : (lastOf (pp.map (evG es))).length ≤ es.length := by
    unfold lastOf
    refine Nat.le_trans (List.length_filterMap_le _ _) ?_
    rw [List.length_range, List.length_map, pl.hpl]
    exact Nat.le_refl _
  have hok8 := pl.hlast
  have hget := pl.hget
  generalize lastOf (pp.map (evG es)) = rs at hZ4 hv8 hl8 hok8 hget
  refine comp_list (names := [Str.ofString "name", Str.ofString "held"]) (fix := [(L + 1 + 1 + 1 + 1, O 1), (A 10, instObj 182 (A 11)), (A 11, hDict w (K9 9) (A 9)), (A 8, W.listOf (V 8).toArray (C 8))]) (add₀ := P) (J := fun i ys add => DatAll add ys ((List.range i).map fun k => thrD (evG rs k))) (B := LastVals rs) (by exact rfl) F N1 (by k_mem) rfl rfl (by rw [sizeLine_eq]; omega) (by decide) (by rfl) (by decide) (by decide) ?hB4 .nil fin_eval (fun I => ?step4) ?fin4
  case hB4 =>
    intro i v h add hv N' hs
    obtain ⟨e, T, t1, t2, n9, he, rfl, hm⟩ := last_at hZ4 hv
    exact ⟨_, .two ⟨_, (N' _ (List.mem_append_right _ (hs _ hm))).1, rfl, n9, rfl⟩ .name .name, rfl, e, t1, t2, he, rfl⟩
  case step4 =>
    rintro i ys add vals oC C9 D9 m₂ h8 tk8 E8 hi hJ hs ⟨e, t1, t2, he, rfl⟩ hC hx F8
    refine AllObj.cons (fun o8 c8 => AllObj.nil (fun N9 off8 => ?_))
    simp only [List.zip_cons_cons, List.zip_nil_right, List.forall_mem_cons] at hx
    obtain ⟨hx1, hx2, _⟩ := hx
    dsimp only [List.cons_append, List.nil_append] at N9 hx1 hx2
    show wpAny _ _ (eval _ _) (CEnd _ _ _ _ _ _ _ _) _ _
    clear N1
    have hem := List.mem_of_getElem? he
    obtain ⟨k1, k2, k3, k4⟩ := hok8 e hem
    have hel := (name_plain _ k1).2
    have hcl : ∀ p ∈ ((A 9, W.listOf (V 9).toArray (C 9)) :: (A 10, instObj 182 (A 11)) :: (A 11, hDict w (K9 9) (A 9)) :: add), p ∈ add := List.forall_mem_cons.mpr ⟨hs _ hat.i9, List.forall_mem_cons.mpr ⟨hs _ hat.i10, List.forall_mem_cons.mpr ⟨hs _ hat.i11, fun _ h => h⟩⟩⟩
    k_steps
    unfold Paused
    obtain ⟨q1, q2, q3, q4⟩ := var1 _ k1
    refine' use_read ((A 9, W.listOf (V 9).toArray (C 9)) :: (A 10, instObj 182 (A 11)) :: (A 11, hDict w (K9 9) (A 9)) :: add) (get_spec w (A 10) (A 11) (A 9) (K9 9) _ (V 9) (C 9) (Txt.lower e.1) (tabN (tabOf es) es.length) add (hat.hT.mono hs) (by omega) hat.a9 q1 q2 q3 pl.hqlT) (fun n' v (h : GotFirst _ _ _ n' v) => h.2) (by k_asm) (by k_asm) (by k_asm) (by assumption) (by k_asm) (by exact rfl) ?ud ?uu (fun p hp => tail_of (P := add) 7 rfl p (hcl p hp)) ?_
    case ud => ktr_room
    case uu => ktr_units
    intro v1 h1 tk1 new1 F1 N1 g1
    have M1 := News.sub N1 (fun p hp => List.mem_append_right _ hp)
    obtain ⟨tt1, rfl⟩ := got_is g1 (hget e hem _ q4)
    clear N1 g1 q1 q2 q3 q4 N9
    k_steps
    unfold Paused
    obtain ⟨q1, q2, q3, q4⟩ := var2 _ k1
    refine' use_read ((A 9, W.listOf (V 9).toArray (C 9)) :: (A 10, instObj 182 (A 11)) :: (A 11, hDict w (K9 9) (A 9)) :: add) (get_spec w (A 10) (A 11) (A 9) (K9 9) _ (V 9) (C 9) (Txt.upper e.1) (tabN (tabOf es) es.length) add (hat.hT.mono hs) (by omega) hat.a9 q1 q2 q3 pl.hqlT) (fun n' v (h : GotFirst _ _ _ n' v) => h.2) (by k_asm) (by k_asm) (by k_asm) (by assumption) (by k_asm) (by exact rfl) ?ud ?uu (fun p hp => tail_of (P := add) 7 rfl p (hcl p hp)) ?_
    case ud => ktr_room
    case uu => ktr_units
    intro v2 h2 tk2 new2 F2 N2 g2
    have M2 := News.sub N2 (fun p hp => List.mem_append_right _ hp)
    obtain ⟨tt2, rfl⟩ := got_is g2 (hget e hem _ q4)
    clear N2 g2 q1 q2 q3 q4 M1
    k_steps
    have hp0 := name_pos _ k1
    refine' item_str (i := 0) (by decide) (by omega) (by omega) ?_
    intro hl0
    k_steps
    unfold Paused
    obtain ⟨q1, q2, q3, q4⟩ := var3 _ k1
    refine' use_read ((A 9, W.listOf (V 9).toArray (C 9)) :: (A 10, instObj 182 (A 11)) :: (A 11, hDict w (K9 9) (A 9)) :: add) (get_spec w (A 10) (A 11) (A 9) (K9 9) _ (V 9) (C 9) (Txt.upper (Txt.item e.1 0) ++ Txt.lower (Txt.slice e.1 (some 1) none)) (tabN (tabOf es) es.length) add (hat.hT.mono hs) (by omega) hat.a9 q1 q2 q3 pl.hqlT) (fun n' v (h : GotFirst _ _ _ n' v) => h.2) (by k_asm) (by k_asm) (by k_asm) (by assumption) (by k_asm) (by exact rfl) ?ud ?uu (fun p hp => tail_of (P := add) 7 rfl p (hcl p hp)) ?_
    case ud => ktr_room
    case uu => ktr_units
    intro v3 h3 tk3 new3 F3 N3 g3
    have M3 := News.sub N3 (fun p hp => List.mem_append_right _ hp)
    obtain ⟨tt3, rfl⟩ := got_is g3 (hget e hem _ q4)
    clear N3 g3 q1 q2 q3 q4
    k_steps
    refine' CEnd.mk (by assumption) (by assumption) [(_, _)] ?sub4 ?off4 ?dat4
    case sub4 => (repeat' (first | (refine List.forall_mem_cons.mpr ⟨by k_mem, ?_⟩) | exact List.forall_mem_nil _ | (intro p9 hp9; (repeat (first | exact hp9 | refine List.mem_cons_of_mem _ ?_)))))
    case off4 => (repeat' (first | exact List.forall_mem_nil _ | k_ne | refine List.forall_mem_cons.mpr ⟨?_, ?_⟩))
    case dat4 => exact dat_snoc hJ (fun p hp => List.mem_cons_of_mem _ hp) (by rw [evG_at he]; exact DatIn.list (vs := [_, _, _]) (n := 0) (List.Mem.head _) (.cons (.str _ _) (.cons (.str _ _) (.cons (.str _ _) .nil))))
  case fin4 =>
    rintro D4 h9 tk9 ys4 P4 hJ4 hs4 F9 N9 off9 lt9
    dsimp only [List.cons_append, List.nil_append] at N9 lt9
    have NB := News.mix (P := P4) N9 5 rfl [0, 4] (es := []) (fun _ h => nomatch h) []
    dsimp only [pickN, atN, List.cons_append, List.nil_append] at NB
    rw [hv8, range_mapG rs thrD] at hJ4
    clear off9 lt9 N9 F N1
    k_steps
    unfold Paused
    refine comp_eval (ct := none) (by with_unfolding_all rfl) (by rfl) (by decide) ?_
    k_steps
    have hZ5 := hZ4.mono hs4
    refine comp_list (names := [Str.ofString "name", Str.ofString "held"]) (fix := [(D4, LCg.lst ys4), (A 8, W.listOf (V 8).toArray (C 8))]) (add₀ := P4) (J := fun i ys add => DatAll add ys ((List.range i).map fun k => thrD (evG rs k))) (B := LastVals rs) (by exact rfl) F9 NB (by k_mem) rfl rfl (by rw [sizeLine_eq]; omega) (by decide) (by rfl) (by decide) (by decide) ?hB5 .nil fin_eval (fun I => ?step5) ?fin5
    case hB5 =>
      intro i v h add hv N' hs
      obtain ⟨e, T, t1, t2, n9, he, rfl, hm⟩ := last_at hZ5 hv
      exact ⟨_, .two ⟨_, (N' _ (List.mem_append_right _ (hs _ hm))).1, rfl, n9, rfl⟩ .name .name, rfl, e, t1, t2, he, rfl⟩
    case step5 =>
      rintro i ys add vals oC C9 D9 m₂ h8 tk8 E8 hi hJ hs ⟨e, t1, t2, he, rfl⟩ hC hx F8
      refine AllObj.cons (fun o8 c8 => AllObj.nil (fun N9 off8 => ?_))
      simp only [List.zip_cons_cons, List.zip_nil_right, List.forall_mem_cons] at hx
      obtain ⟨hx1, hx2, _⟩ := hx
      dsimp only [List.cons_append, List.nil_append] at N9 hx1 hx2
      show wpAny _ _ (eval _ _) (CEnd _ _ _ _ _ _ _ _) _ _
      clear NB
      obtain ⟨k1, k2, k3, k4⟩ := hok8 e (List.mem_of_getElem? he)
      k_steps
      unfold Paused
      refine' use_read [] (written_spec w e.2.1 _ k2 k3) (fun _ _ _ p hp => nomatch hp) (by k_asm) (by k_asm) (by k_asm) (by assumption) (by k_asm) (by exact rfl) ?ud ?uu (List.forall_mem_nil _) ?_
      case ud => ktr_room
      case uu => ktr_units
      rintro v5 h5 tk5 new5 F5 N5 ⟨t5, rfl⟩
      have N10 := News.sub N5 (fun p hp => List.mem_append_right _ hp)
      clear N5 N9
      k_steps
      unfold Paused
      rename_i l3 _ F3 N3 l33
      refine' KMa.mul (vs := [.str (writtenStr e.2.1) t5]) (ws := [.str (writtenStr e.2.1) t5, .str (writtenStr e.2.1) t5, .str (writtenStr e.2.1) t5]) F3 N3 (PySem.IsL.isList (n := 0) (N3 _ (List.Mem.head _)).1) (by decide) (by decide) (by show 1 * 3 ≤ 256; decide) rfl ?_
      intro D6 h6 F6 N6 l6
      k_lt l6
      k_steps
      refine' CEnd.mk (by assumption) (by assumption) [(D6, _)] ?sub5 ?off5 ?dat5
      case sub5 => (repeat' (first | (refine List.forall_mem_cons.mpr ⟨by k_mem, ?_⟩) | exact List.forall_mem_nil _ | (intro p9 hp9; (repeat (first | exact hp9 | refine List.mem_cons_of_mem _ ?_)))))
      case off5 => (repeat' (first | exact List.forall_mem_nil _ | k_ne | refine List.forall_mem_cons.mpr ⟨?_, ?_⟩))
      case dat5 => exact dat_snoc hJ (fun p hp => List.mem_cons_of_mem _ hp) (by rw [evG_at he]; exact DatIn.list (vs := [_, _, _]) (n := 0) (List.Mem.head _) (.cons (.str _ _) (.cons (.str _ _) (.cons (.str _ _) .nil))))
    case fin5 =>
      rintro D7 h9 tk9 ys7 P7 hJ7 hs7 FX NX off9 lt9
      dsimp only [List.cons_append, List.nil_append] at NX lt9
      rw [hv8, range_mapG rs thrD] at hJ7
      clear off9 lt9
      k_steps
      unfold Paused
      have up7 := News.tail (P := P7) NX 3 rfl
      have hs9 := fun p hp => hs7 p (hs4 p hp)
      have hokT : ∀ d ∈ rs.map thrD, kqdOk 8 d = true := fun d hd => by
        obtain ⟨e, he, rfl⟩ := List.mem_map.mp hd
        exact thr_ok (pl.hsoW e.2.1 (hok8 e he).2.1 (hok8 e he).2.2.1)
      refine' ne_dat (b := true) ⟨fun _ => rfl, fun _ => rfl⟩ NX (by k_mem) hJ4 (fun p hp => up7 p (hs7 p hp)) (List.Mem.head _) hJ7 up7 hokT hokT (by ke_room) ?_
      k_steps
      unfold Paused
      exact hnext P7 _ _ (hat.up hs9 FX (News.sub NX up7))
theorem fin : epsP epsC := by with_unfolding_all exact fun T B X pl hat hnext => walk T B X pl hat hnext
end E_law_r2d
theorem law_r2d (w : World) (p : Program) (loose : List Str) (mean : ExcName → Option Value) (mg mb : Str → Option Value) (h₀ : Heap) (L fa : Addr) (cd : Value) (T : Top p loose mean mg mb h₀) (B : Below callerA h₀ [] h₀) (X : (K w.params).In h₀) (s : Shared) (es : List Ev) (pp : List Nat) (pl : Plain9 es pp) (A : Nat → Addr) (V : Nat → List Value) (C : Nat → Nat) (O : Nat → Obj) (K9 : Nat → Tok) (m : Str → Option Value) (P : Led) (hat : At w h₀ L es pp A V C O K9 m P s.heap) (Q : Flow → Shared → Prop) (E : Value → Shared → Prop) (hnext : ∀ P h tk, At w h₀ L es pp A V C O K9 m P h → wpAny (model prog w) (callerA.deeper (lawE L fa cd)) (execs (fLaw.1.2.1.drop 8) (lawE L fa cd)) Q E { s with heap := h, toks := tk }) : wpAny (model prog w) (callerA.deeper (lawE L fa cd)) (execs (fLaw.1.2.1.drop 7) (lawE L fa cd)) Q E s := of_worst (P := E_law_r2d.epsP) (h := E_law_r2d.epsN) (by with_unfolding_all exact E_law_r2d.fin) (w, p, loose, mean, mg, mb, h₀, L, fa, cd, s, es, pp, A, V, C, O, K9, m, P, Q, E) T B X pl hat hnext
end
section
open PyProof.V PySem.Spec
theorem land_hi (n : Nat) (h : n < 65536) : n &&& 61440 = n / 4096 * 4096 := by
  have e : n / 4096 * 4096 = (n / 2 ^ 12) <<< 12 := by rw [Nat.shiftLeft_eq]
  have e2 : (61440 : Nat) = (2 ^ 4 - 1) <<< 12 := by decide
  rw [e, e2]
  apply Nat.eq_of_testBit_eq
  intro i
  rw [Nat.testBit_and, Nat.testBit_shiftLeft, Nat.testBit_shiftLeft, Nat.testBit_two_pow_sub_one, Nat.testBit_div_two_pow]
  by_cases h1 : 12 ≤ i
  · by_cases h2 : i < 16
    · have : i - 12 < 4 := by omega
      simp [h1, this, show 12 + (i - 12) = i by omega]
    · have : n.testBit i = false := Nat.testBit_lt_two_pow (Nat.lt_of_lt_of_le h (show 2 ^ 16 ≤ 2 ^ i from Nat.pow_le_pow_right (by decide) (by omega)))
      simp [h1, this]
  · simp [h1]
theorem land_bit (n i : Nat) : n &&& 2 ^ i = n / 2 ^ i % 2 * 2 ^ i := by
  have hb : n / 2 ^ i % 2 < 2 := Nat.mod_lt _ (by decide)
  have ht : n.testBit i = decide (n / 2 ^ i % 2 = 1) := Nat.testBit_eq_decide_div_mod_eq
  apply Nat.eq_of_testBit_eq
  intro j
  rw [Nat.testBit_and, Nat.testBit_two_pow]
  by_cases h : n / 2 ^ i % 2 = 1
  · rw [h, Nat.one_mul, Nat.testBit_two_pow]
    by_cases e : i = j
    · subst e; simp [ht, h]
    · simp [e]
  · have h0 : n / 2 ^ i % 2 = 0 := by omega
    rw [h0, Nat.zero_mul, Nat.zero_testBit]
    by_cases e : i = j
    · subst e; simp [ht, h0]
    · simp [e]
theorem land_two (n i j : Nat) : n &&& (2 ^ i ||| 2 ^ j) = (n / 2 ^ i % 2 * 2 ^ i) ||| (n / 2 ^ j % 2 * 2 ^ j) := by
  rw [Nat.and_or_distrib_left, land_bit, land_bit]
theorem bitAnd_nat (n m : Nat) : Builtin.bitAnd (n : Int) (m : Int) = ((n &&& m : Nat) : Int) := by
  unfold Builtin.bitAnd
  rw [decide_eq_true (Int.natCast_nonneg n), decide_eq_true (Int.natCast_nonneg m)]
  rfl
theorem fdiv_nat (n m : Nat) : ((n : Int)).fdiv (m : Int) = ((n / m : Nat) : Int) := by
  rw [Int.fdiv_eq_ediv_of_nonneg _ (Int.natCast_nonneg m)]
  rfl
theorem fmod_nat (n m : Nat) : ((n : Int)).fmod (m : Int) = ((n % m : Nat) : Int) := by
  rw [Int.fmod_eq_emod_of_nonneg _ (Int.natCast_nonneg m)]
  rfl
noncomputable def type16 (v : Int) : Str := match [((40960 : Int), S1 "l"), (49152, S1 "s"), (32768, S1 "-"), (24576, S1 "b"), (16384, S1 "d"), (8192, S1 "c"), (4096, S1 "p")].find? fun p => v == p.1 with | some p => p.2 | none => S1 "?"
theorem type_at : ∀ k : Nat, k < 16 → type16 ((k * 4096 : Nat) : Int) = Txt.item (Str.ofString "?pc?d?b?-?l?s???") (k : Int) := by decide +kernel
noncomputable def one (u v : Int) (c : Str) : Str := match (if u == v then some c else none) with | some p => p | none => S1 "-"
theorem pick_one {x : Int} {k : Nat} {v : Int} {c : Str} : pick x (k + 1) [(v, c)] = one (Builtin.bitAnd x v) v c := by
  unfold pick one
  rw [if_neg (Nat.succ_ne_zero k)]
  cases h : Builtin.bitAnd x v == v <;> simp [List.find?, h]
noncomputable def three (a av b bv c cv : Int) (x y z : Str) : Str := if a == av then x else if b == bv then y else if c == cv then z else S1 "-"
theorem pick_three {x : Int} {k : Nat} {a b c : Int} {u v w : Str} : pick x (k + 1) [(a, u), (b, v), (c, w)] = three (Builtin.bitAnd x a) a (Builtin.bitAnd x b) b (Builtin.bitAnd x c) c u v w := by
  unfold pick three
  rw [if_neg (Nat.succ_ne_zero k)]
  cases h : Builtin.bitAnd x a == a <;> cases h2 : Builtin.bitAnd x b == b <;> cases h3 : Builtin.bitAnd x c == c <;> simp [List.find?, h, h2, h3]
theorem bit2 (n i : Nat) : n / 2 ^ i % 2 < 2 := Nat.mod_lt _ (by decide)
theorem dd9 (n a b c : Nat) (h : a * b = c) : n / a / b % 2 = n / c % 2 := by rw [Nat.div_div_eq_div_mul, h]
theorem mode_eq {x : Int} (h0 : 0 ≤ x) (h1 : x < 65536) : modeStr x = writtenStr x := by
  obtain ⟨n, rfl⟩ := Int.eq_ofNat_of_zero_le h0
  have hn : n < 65536 := by omega
  have e0 : pick (n : Int) 0 [((40960 : Int), S1 "l"), (49152, S1 "s"), (32768, S1 "-"), (24576, S1 "b"), (16384, S1 "d"), (8192, S1 "c"), (4096, S1 "p")] = Txt.item (Str.ofString "?pc?d?b?-?l?s???") ((n : Int).fdiv 4096) := by
    have q : Builtin.bitAnd (n : Int) 61440 = ((n / 4096 * 4096 : Nat) : Int) := by rw [← land_hi n hn]; exact bitAnd_nat n 61440
    have q2 : (n : Int).fdiv 4096 = ((n / 4096 : Nat) : Int) := fdiv_nat n 4096
    rw [q2, ← type_at _ (by omega), ← q]
    rfl
  have one_at : ∀ (i : Nat) (a b : Nat) (k : Nat) (c s : Str), n / a / b % 2 = n / 2 ^ i % 2 → (∀ t : Nat, t < 2 → one ((t * 2 ^ i : Nat) : Int) ((2 ^ i : Nat) : Int) c = Txt.item s (t : Int)) → pick (n : Int) (k + 1) [(((2 ^ i : Nat) : Int), c)] = Txt.item s ((((n : Int).fdiv (a : Int)).fdiv (b : Int)).fmod 2) := by
    intro i a b k c s hab hc
    rw [pick_one, bitAnd_nat, land_bit, hc _ (bit2 n i), fdiv_nat, fdiv_nat, ← hab]
    exact congrArg (Txt.item s) (fmod_nat _ 2).symm
  have three_at : ∀ (i j : Nat) (k : Nat) (u v w s : Str), (∀ t : Nat, t < 2 → ∀ r : Nat, r < 2 → three (((t * 2 ^ i) ||| (r * 2 ^ j) : Nat) : Int) ((2 ^ i ||| 2 ^ j : Nat) : Int) ((t * 2 ^ i : Nat) : Int) ((2 ^ i : Nat) : Int) ((r * 2 ^ j : Nat) : Int) ((2 ^ j : Nat) : Int) u v w = Txt.item s ((r : Int) + 2 * (t : Int))) →
      pick (n : Int) (k + 1) [(((2 ^ i ||| 2 ^ j : Nat) : Int), u), (((2 ^ i : Nat) : Int), v), (((2 ^ j : Nat) : Int), w)] = Txt.item s (((n : Int).fdiv ((2 ^ j : Nat) : Int)).fmod 2 + 2 * ((n : Int).fdiv ((2 ^ i : Nat) : Int)).fmod 2) := by
    intro i j k u v w s hc
    rw [pick_three, bitAnd_nat, bitAnd_nat, bitAnd_nat, land_two, land_bit, land_bit, hc _ (bit2 n i) _ (bit2 n j), fdiv_nat, fdiv_nat]
    exact congrArg (Txt.item s) (by rw [show (((n / 2 ^ j : Nat) : Int)).fmod 2 = ((n / 2 ^ j % 2 : Nat) : Int) from fmod_nat _ 2, show (((n / 2 ^ i : Nat) : Int)).fmod 2 = ((n / 2 ^ i % 2 : Nat) : Int) from fmod_nat _ 2])
  have e1 := one_at 8 64 4 0 (S1 "r") (Str.ofString "-r") (dd9 n 64 4 (2 ^ 8) (by decide)) (by decide +kernel)
  have e2 := one_at 7 64 2 1 (S1 "w") (Str.ofString "-w") (dd9 n 64 2 (2 ^ 7) (by decide)) (by decide +kernel)
  have e3 := three_at 11 6 2 (S1 "s") (S1 "S") (S1 "x") (Str.ofString "-xSs") (by decide +kernel)
  have e4 := one_at 5 8 4 3 (S1 "r") (Str.ofString "-r") (dd9 n 8 4 (2 ^ 5) (by decide)) (by decide +kernel)
  have e5 := one_at 4 8 2 4 (S1 "w") (Str.ofString "-w") (dd9 n 8 2 (2 ^ 4) (by decide)) (by decide +kernel)
  have e6 := three_at 10 3 5 (S1 "s") (S1 "S") (S1 "x") (Str.ofString "-xSs") (by decide +kernel)
  have e7 := one_at 2 1 4 6 (S1 "r") (Str.ofString "-r") (dd9 n 1 4 (2 ^ 2) (by decide)) (by decide +kernel)
  have e8 := one_at 1 1 2 7 (S1 "w") (Str.ofString "-w") (dd9 n 1 2 (2 ^ 1) (by decide)) (by decide +kernel)
  have e9 := three_at 9 0 8 (S1 "t") (S1 "T") (S1 "x") (Str.ofString "-xTt") (by decide +kernel)
  apply ch_inj
  rw [ch_mode]
  have ep : picks (n : Int) = [Txt.item (Str.ofString "?pc?d?b?-?l?s???") ((n : Int).fdiv 4096), Txt.item (Str.ofString "-r") ((((n : Int).fdiv 64).fdiv 4).fmod 2), Txt.item (Str.ofString "-w") ((((n : Int).fdiv 64).fdiv 2).fmod 2), Txt.item (Str.ofString "-xSs") (((n : Int).fdiv 64).fmod 2 + 2 * ((n : Int).fdiv 2048).fmod 2),
      Txt.item (Str.ofString "-r") ((((n : Int).fdiv 8).fdiv 4).fmod 2), Txt.item (Str.ofString "-w") ((((n : Int).fdiv 8).fdiv 2).fmod 2), Txt.item (Str.ofString "-xSs") (((n : Int).fdiv 8).fmod 2 + 2 * ((n : Int).fdiv 1024).fmod 2),
      Txt.item (Str.ofString "-r") ((((n : Int).fdiv 1).fdiv 4).fmod 2), Txt.item (Str.ofString "-w") ((((n : Int).fdiv 1).fdiv 2).fmod 2), Txt.item (Str.ofString "-xTt") (((n : Int).fdiv 1).fmod 2 + 2 * ((n : Int).fdiv 512).fmod 2)] := by
    show [pick (n : Int) 0 _, pick (n : Int) 1 _, pick (n : Int) 2 _, pick (n : Int) 3 _, pick (n : Int) 4 _, pick (n : Int) 5 _, pick (n : Int) 6 _, pick (n : Int) 7 _, pick (n : Int) 8 _, pick (n : Int) 9 _] = _
    exact congr (congrArg List.cons e0) (congr (congrArg List.cons e1) (congr (congrArg List.cons e2) (congr (congrArg List.cons e3) (congr (congrArg List.cons e4) (congr (congrArg List.cons e5) (congr (congrArg List.cons e6) (congr (congrArg List.cons e7) (congr (congrArg List.cons e8) (congr (congrArg List.cons e9) rfl)))))))))
  rw [ep]
  unfold writtenStr
  simp only [ch_append, List.map_cons, List.map_nil, List.flatten_cons, List.flatten_nil, List.append_nil, List.append_assoc]
end
end
theorem sweepP26a {M : Model} {A : Around} {env : Env} {Q : Flow → Shared → Prop} {E : Value → Shared → Prop} {s : Shared} (h : wpAny M A (execs [] env) Q E s) : wpAny M A (execs [] env) Q E s := by w_top off; first | (walk1; fail "swept") | exact h
section
open PyProof.V PySem.Spec
local macro_rules | `(tactic| walk_at "exec Assign cons ListComp") => `(tactic| refine Paused.intro ?_)
section
open PyProof.V PySem.Spec
local macro_rules | `(tactic| walk_at "execs cons") => `(tactic| k_extra "mv4")
theorem sweepP26 {M : Model} {A : Around} {env : Env} {Q : Flow → Shared → Prop} {E : Value → Shared → Prop} {s : Shared} (h : wpAny M A (execs [] env) Q E s) : wpAny M A (execs [] env) Q E s := by w_top off; first | (walk1; fail "swept") | exact h
section
open PyProof.V PySem.Spec
noncomputable abbrev b3D : Dat := .list [.bool true, .bool true, .bool true]
noncomputable def ZipVals (rs : List Ev) (i : Nat) (vals : List Value) : Prop := ∃ e t1 t2 t3 t4, rs[i]? = some e ∧ vals = [Value.str e.1 t1, Value.int e.2.1 t2, Value.str e.1 t3, Value.str (writtenStr e.2.1) t4]
theorem item_head (c : Nat) (y : Str) : Txt.item (⟨#[c]⟩ ++ y) 0 = ⟨#[c]⟩ := by
  have : Txt.charAt (⟨#[c]⟩ ++ y) 0 = some c := by
    unfold Txt.charAt
    have q : (⟨#[c]⟩ ++ y : Str).length = 1 + y.length := Str.length_append _ _
    have q2 : seqIndex? 0 (1 + y.length) = some 0 := by
      unfold seqIndex?
      have : (0 : Int) < ((1 + y.length : Nat) : Int) := by omega
      simp
      try omega
    rw [q, q2]
    simp [Str.cps_append, Array.getElem?_append]
  unfold Txt.item
  rw [this]; rfl
theorem writ_split (x : Int) : ∃ y, writtenStr x = Txt.item (Str.ofString "?pc?d?b?-?l?s???") (x.fdiv 4096) ++ y := by
  unfold writtenStr
  simp only [Str.append_assoc]
  exact ⟨_, rfl⟩
theorem writ_pos {x : Int} : 1 ≤ (writtenStr x).length := by
  obtain ⟨y, e⟩ := writ_split x
  rw [e, Str.length_append]
  exact Nat.le_add_right 1 _
theorem writ_head (x : Int) : Txt.item (writtenStr x) 0 = Txt.item (Str.ofString "?pc?d?b?-?l?s???") (x.fdiv 4096) := by
  obtain ⟨y, e⟩ := writ_split x
  rw [e]
  exact item_head _ _
theorem kinds16 : ∀ k : Nat, k < 16 → ((((k * 4096 : Nat) : Int) == 16384) == (Txt.item (Str.ofString "?pc?d?b?-?l?s???") (k : Int) == Str.ofString "d")) = true ∧ ((((k * 4096 : Nat) : Int) == 40960) == (Txt.item (Str.ofString "?pc?d?b?-?l?s???") (k : Int) == Str.ofString "l")) = true ∧ ((((k * 4096 : Nat) : Int) == 32768) == (Txt.item (Str.ofString "?pc?d?b?-?l?s???") (k : Int) == Str.ofString "-")) = true := by decide +kernel
theorem kinds_at {x : Int} (h0 : 0 ≤ x) (h1 : x < 65536) : ((Builtin.bitAnd x 61440 == 16384) == (Txt.item (writtenStr x) 0 == Str.ofString "d")) = true ∧ ((Builtin.bitAnd x 61440 == 40960) == (Txt.item (writtenStr x) 0 == Str.ofString "l")) = true ∧ ((Builtin.bitAnd x 61440 == 32768) == (Txt.item (writtenStr x) 0 == Str.ofString "-")) = true := by
  rw [writ_head]
  obtain ⟨n, rfl⟩ := Int.eq_ofNat_of_zero_le h0
  have hn : n < 65536 := by omega
  have e1 : Builtin.bitAnd (n : Int) 61440 = ((n / 4096 * 4096 : Nat) : Int) := by
    rw [← land_hi n hn]
    unfold Builtin.bitAnd
    rw [decide_eq_true h0]
    rfl
  have e2 : ((n : Int)).fdiv 4096 = ((n / 4096 : Nat) : Int) := by
    rw [Int.fdiv_eq_ediv_of_nonneg _ (by decide)]
    rfl
  rw [e1, e2]
  exact kinds16 _ (by omega)
noncomputable def b3P : PyData := .list [.bool true, .bool true, .bool true]
theorem b3_read {h₀ h : Heap} {L : Addr} {P news : Led} (N : News h₀ L h news) (hs : ∀ p ∈ P, p ∈ news) {v : Value} (d : DatIn P v (.list [.bool true, .bool true, .bool true])) : ∃ as, Reads h v b3P as := by
  obtain ⟨l, vs, n, rfl, hm, r⟩ := in_list9 d
  obtain ⟨v1, w1, rfl, d1, r⟩ := all_cons9 r
  obtain ⟨v2, w2, rfl, d2, r⟩ := all_cons9 r
  obtain ⟨v3, w3, rfl, d3, r⟩ := all_cons9 r
  rw [in_bool9 d1, in_bool9 d2, in_bool9 d3, all_nil9 r] at hm
  exact ⟨_, reads_list_at (N.get (hs _ hm)) rfl rfl (.cons (Reads.bool _) (.cons (Reads.bool _) (.cons (Reads.bool _) ReadsAll.nil)))⟩
theorem b3_reads {h₀ h : Heap} {L : Addr} {P news : Led} (N : News h₀ L h news) (hs : ∀ p ∈ P, p ∈ news) : ∀ (n : Nat) {vs : List Value}, DatAll P vs (List.replicate n (.list [.bool true, .bool true, .bool true])) → ∃ as, ReadsAll h vs (List.replicate n b3P) as
  | 0, _, .nil => ⟨_, ReadsAll.nil⟩
  | n + 1, _, .cons hd r => by
    obtain ⟨as, q⟩ := b3_read N hs hd
    obtain ⟨bs, p⟩ := b3_reads N hs n r
    exact ⟨_, ReadsAll.cons q p⟩
theorem b3_lay : ∀ n : Nat, PyData.canLayAll0 (List.replicate n b3P) = true ∧ PyData.depthAll (List.replicate n b3P) ≤ 2
  | 0 => by decide
  | n + 1 => by
    obtain ⟨a, b⟩ := b3_lay n
    rw [List.replicate_succ]
    refine ⟨?_, ?_⟩
    · rw [PyData.canLayAll0, a]; rfl
    · rw [PyData.depthAll]
      have : b3P.depth ≤ 2 := by decide
      omega
section
variable {prog : Program} {w : World} {A : Around} {E : Value → Shared → Prop} {s : Shared} {h₀ : Heap} {L a a' : Addr} {xs ys : List Value} {ka kb n : Nat} {n₁ n₂ news : Led} {Q : Value → Shared → Prop}
theorem eq_b3 (N : News h₀ L s.heap news) (ma : (a, W.listOf xs.toArray ka) ∈ news) (Da : DatAll n₁ xs (List.replicate n (.list [.bool true, .bool true, .bool true]))) (sa : ∀ p ∈ n₁, p ∈ news) (mb : (a', W.listOf ys.toArray kb) ∈ news) (Db : DatAll n₂ ys (List.replicate n (.list [.bool true, .bool true, .bool true]))) (sb : ∀ p ∈ n₂, p ∈ news)
    (hu : A.units + 64 < cLine) (h : Q (.bool true) s) : wpAny (model prog w) A (compareOp .Eq (.ref a) (.ref a')) Q E s := by
  obtain ⟨as, ra⟩ := b3_reads N sa n Da
  obtain ⟨bs, rb⟩ := b3_reads N sb n Db
  obtain ⟨l1, l2⟩ := b3_lay n
  have hl : PyData.canLay0 (.list (List.replicate n b3P)) = true := by rw [PyData.canLay0]; exact l1
  have hsh : SeqAt.shaped (.list (List.replicate n b3P)) = true := by
    unfold SeqAt.shaped
    rw [hl, Bool.true_and]
    refine decide_eq_true ?_
    rw [PyData.depth]
    omega
  exact eq_dataH (reads_list_at (N.get ma) rfl rfl (by simpa [W.listOf] using ra)) (reads_list_at (N.get mb) rfl rfl (by simpa [W.listOf] using rb)) hsh hsh hu (by rw [SeqAt.eqv_refl _ hl]; exact h)
end
theorem flat1 {α : Type} (v : α) : ∀ n : Nat, (List.replicate n [v]).flatten = List.replicate n v
  | 0 => rfl
  | n + 1 => by rw [List.replicate_succ, List.flatten_cons, flat1 v n, List.replicate_succ]; rfl
theorem repl_dat {P : Led} {v : Value} {d : Dat} (h : DatIn P v d) : ∀ n : Nat, DatAll P (List.replicate n v) (List.replicate n d)
  | 0 => .nil
  | n + 1 => .cons h (repl_dat h n)
namespace E_law_r2e
noncomputable def epsP (q : World × Program × (List Str) × (ExcName → Option Value) × (Str → Option Value) × (Str → Option Value) × Heap × Addr × Addr × Value × Shared × (List Ev) × (List Nat) × (Nat → Addr) × (Nat → List Value) × (Nat → Nat) × (Nat → Obj) × (Nat → Tok) × (Str → Option Value) × Led × (Flow → Shared → Prop) × (Value → Shared → Prop)) : Prop := (fun (w : World) (p : Program) (loose : List Str) (mean : ExcName → Option Value) (mg : Str → Option Value) (mb : Str → Option Value) (h₀ : Heap) (L : Addr) (fa : Addr) (cd : Value) (s : Shared) (es : List Ev) (pp : List Nat) (A : Nat → Addr) (V : Nat → List Value) (C : Nat → Nat) (O : Nat → Obj) (K9 : Nat → Tok) (m : Str → Option Value) (P : Led) (Q : Flow → Shared → Prop) (E : Value → Shared → Prop) => ∀ (T : Top p loose mean mg mb h₀) (B : Below callerA h₀ [] h₀) (X : (K w.params).In h₀) (pl : Plain9 es pp) (hat : At w h₀ L es pp A V C O K9 m P s.heap) (hend : ∀ h tk mm, Fr h₀ L h mm → Q (.ret (.bool true)) { s with heap := h, toks := tk }), wpAny (model prog w) (callerA.deeper (lawE L fa cd)) (execs (fLaw.1.2.1.drop 8) (lawE L fa cd)) Q E s) q.1 q.2.1 q.2.2.1 q.2.2.2.1 q.2.2.2.2.1 q.2.2.2.2.2.1 q.2.2.2.2.2.2.1 q.2.2.2.2.2.2.2.1 q.2.2.2.2.2.2.2.2.1 q.2.2.2.2.2.2.2.2.2.1 q.2.2.2.2.2.2.2.2.2.2.1 q.2.2.2.2.2.2.2.2.2.2.2.1 q.2.2.2.2.2.2.2.2.2.2.2.2.1 q.2.2.2.2.2.2.2.2.2.2.2.2.2.1 q.2.2.2.2.2.2.2.2.2.2.2.2.2.2.1 q.2.2.2.2.2.2.2.2.2.2.2.2.2.2.2.1 q.2.2.2.2.2.2.2.2.2.2.2.2.2.2.2.2.1 q.2.2.2.2.2.2.2.2.2.2.2.2.2.2.2.2.2.1 q.2.2.2.2.2.2.2.2.2.2.2.2.2.2.2.2.2.2.1 q.2.2.2.2.2.2.2.2.2.2.2.2.2.2.2.2.2.2.2.1 q.2.2.2.2.2.2.2.2.2.2.2.2.2.2.2.2.2.2.2.2.1 q.2.2.2.2.2.2.2.2.2.2.2.2.2.2.2.2.2.2.2.2.2
theorem epsN : Nonempty (World × Program × (List Str) × (ExcName → Option Value) × (Str → Option Value) × (Str → Option Value) × Heap × Addr × Addr × Value × Shared × (List Ev) × (List Nat) × (Nat → Addr) × (Nat → List Value) × (Nat → Nat) × (Nat → Obj) × (Nat → Tok) × (Str → Option Value) × Led × (Flow → Shared → Prop) × (Value → Shared → Prop)) := ⟨(Classical.choice neWorld, default, default, default, default, default, default, default, default, default, {}, default, default, default, default, default, default, default, default, default, default, default)⟩
@[irreducible] noncomputable def epsC : World × Program × (List Str) × (ExcName → Option Value) × (Str → Option Value) × (Str → Option Value) × Heap × Addr × Addr × Value × Shared × (List Ev) × (List Nat) × (Nat → Addr) × (Nat → List Value) × (Nat → Nat) × (Nat → Obj) × (Nat → Tok) × (Str → Option Value) × Led × (Flow → Shared → Prop) × (Value → Shared → Prop) := worst epsN epsP
@[irreducible] noncomputable def w : World := epsC.1
@[irreducible] noncomputable def p : Program := epsC.2.1
@[irreducible] noncomputable def loose : List Str := epsC.2.2.1
@[irreducible] noncomputable def mean : ExcName → Option Value := epsC.2.2.2.1
@[irreducible] noncomputable def mg : Str → Option Value := epsC.2.2.2.2.1
@[irreducible] noncomputable def mb : Str → Option Value := epsC.2.2.2.2.2.1
@[irreducible] noncomputable def h₀ : Heap := epsC.2.2.2.2.2.2.1
@[irreducible] noncomputable def L : Addr := epsC.2.2.2.2.2.2.2.1
@[irreducible] noncomputable def fa : Addr := epsC.2.2.2.2.2.2.2.2.1
@[irreducible] noncomputable def cd : Value := epsC.2.2.2.2.2.2.2.2.2.1
@[irreducible] noncomputable def s : Shared := epsC.2.2.2.2.2.2.2.2.2.2.1
@[irreducible] noncomputable def es : List Ev := epsC.2.2.2.2.2.2.2.2.2.2.2.1
@[irreducible] noncomputable def pp : List Nat := epsC.2.2.2.2.2.2.2.2.2.2.2.2.1
@[irreducible] noncomputable def A : Nat → Addr := epsC.2.2.2.2.2.2.2.2.2.2.2.2.2.1
@[irreducible] noncomputable def V : Nat → List Value := epsC.2.2.2.2.2.2.2.2.2.2.2.2.2.2.1
@[irreducible] noncomputable def C : Nat → Nat := epsC.2.2.2.2.2.2.2.2.2.2.2.2.2.2.2.1
@[irreducible] noncomputable def O : Nat → Obj := epsC.2.2.2.2.2.2.2.2.2.2.2.2.2.2.2.2.1
@[irreducible] noncomputable def K9 : Nat → Tok := epsC.2.2.2.2.2.2.2.2.2.2.2.2.2.2.2.2.2.1
@[irreducible] noncomputable def m : Str → Option Value := epsC.2.2.2.2.2.2.2.2.2.2.2.2.2.2.2.2.2.2.1
@[irreducible] noncomputable def P : Led := epsC.2.2.2.2.2.2.2.2.2.2.2.2.2.2.2.2.2.2.2.1
@[irreducible] noncomputable def Q : Flow → Shared → Prop := epsC.2.2.2.2.2.2.2.2.2.2.2.2.2.2.2.2.2.2.2.2.1
@[irreducible] noncomputable def E : Value → Shared → Prop := epsC.2.2.2.2.2.2.2.2.2.2.2.2.2.2.2.2.2.2.2.2.2
theorem walk (T : Top p loose mean mg mb h₀) (B : Below callerA h₀ [] h₀) (X : (K w.params).In h₀) (pl : Plain9 es pp) (hat : At w h₀ L es pp A V C O K9 m P s.heap) (hend : ∀ h tk mm, Fr h₀ L h mm → Q (.ret (.bool true)) { s with heap := h, toks := tk }) : wpAny (model prog w) (callerA.deeper (lawE L fa cd)) (execs (fLaw.1.2.1.drop 8) (lawE L fa cd)) Q E s := by
  have hlen := pl.hlen
  have hvT := hat.vT
  have mZ := hat.mZ
  have F := hat.F
  have cT := hat.cT
  dsimp only [List.drop] at ⊢
  have N1 := News.ahead hat.N (in4 hat.iT hat.i10 hat.i11 hat.i8)
  dsimp only [pickN, atN, List.cons_append, List.nil_append] at N1
  k_steps
  unfold Paused
  refine comp_assign (ct := none) (by with_unfolding_all rfl) (by with_unfolding_all rfl) (by rfl) (by decide) ?_
  k_steps
  unfold Paused
  refine' use_items (n := C 9) (t := K9 9) (vs := V 9) (by omega) hat.a9 (by k_asm) (by k_asm) (by k_asm) (by assumption) (by k_asm) (by exact rfl) ?ud ?uu (fun p hp => tail_of (P := P) 4 rfl p (in3 hat.i9 hat.i10 hat.i11 p hp)) ?_
  case ud => ktr_room
  case uu => ktr_units
  intro D6 n6 h6 tk6 F6 N7 off6
  have N8 := News.mix (P := P) N7 5 rfl [0, 4] (es := []) (fun _ h => nomatch h) []
  dsimp only [pickN, atN, List.cons_append, List.nil_append] at N8
  clear N7 N1 off6 F
  k_steps
  unfold Paused
  have hZ4 := hat.hZ
  have hT4 := hat.hT
  have hv8 : (V 8).length = (lastOf (pp.map (evG es))).length := by rw [hat.hZ.length, List.length_map]
  have hl8 : (lastOf (pp.map (evG es))).length ≤ es.length := by
    unfold lastOf
    refine Nat.le_trans (List.length_filterMap_le _ _) ?_
    rw [List.length_range, List.length_map, pl.hpl]
    exact Nat.le_refl _
  have hok8 := pl.hlast
  have hDl := pl.hD
  have hv9 : (V 9).length = (lastOf (pp.map (evG es))).length := by rw [hat.hT.length, List.length_map, ← hDl, List.length_map]
  generalize lastOf (pp.map (evG es)) = rs at hZ4 hv8 hl8 hok8 hDl hv9
  refine comp_zip (xs := V 8) (ys := V 9) (n := rs.length) (names := [Str.ofString "name", Str.ofString "held", Str.ofString "key", Str.ofString "row"]) (fix := [(D6, W.listOf (V 9).toArray n6), (A 8, W.listOf (V 8).toArray (C 8))]) (add₀ := P) (J := fun i ys add => DatAll add ys (List.replicate i b3D)) (B := ZipVals rs) (by exact rfl) F6 N8 (by k_mem) rfl rfl (by k_mem) rfl rfl (by rw [hv8, hv9, Nat.min_self]) (by rw [sizeLine_eq]; omega) (by decide) (by rfl) (by decide) (by decide) ?hB4 .nil (fin_assign (env := lawE L fa cd) (y := Str.ofString "kinds") (by rfl) (by rfl)) (fun I => ?step4) ?fin4
  case hB4 =>
    intro i x y T1 h add hx hy hT N' hs
    obtain ⟨e, T, t1, t2, n9, he, rfl, hm⟩ := last_at hZ4 hx
    obtain ⟨q, T', t3, t4, n9', hq, rfl, hm'⟩ := pair_at hT4 hy
    rw [← hDl, List.getElem?_map, he] at hq
    cases hq
    exact ⟨[.str e.1 t1, .int e.2.1 t2, .str e.1 t3, .str (writtenStr e.2.1) t4], .two hT (.two ⟨_, (N' _ (List.mem_append_right _ (hs _ hm))).1, rfl, n9, rfl⟩ .name .name) (.two ⟨_, (N' _ (List.mem_append_right _ (hs _ hm'))).1, rfl, n9', rfl⟩ .name .name), rfl, e, t1, t2, t3, t4, he, rfl⟩
  case step4 =>
    rintro i ys add vals oC C9 D9 m₂ h8 tk8 E8 hi hJ hs ⟨e, t1, t2, t3, t4, he, rfl⟩ hC hx F8
    refine AllObj.cons (fun o1 c1 => AllObj.cons (fun o2 c2 => AllObj.cons (fun o3 c3 => AllObj.cons (fun o4 c4 => AllObj.cons (fun o5 c5 => AllObj.nil (fun N9 off8 => ?_))))))
    simp only [List.zip_cons_cons, List.zip_nil_right, List.forall_mem_cons] at hx
    obtain ⟨hx1, hx2, hx3, hx4, _⟩ := hx
    dsimp only [List.cons_append, List.nil_append] at N9 hx1 hx2 hx3 hx4
    show wpAny _ _ (eval _ _) (CEnd _ _ _ _ _ _ _ _) _ _
    clear N8
    have hem := List.mem_of_getElem? he
    obtain ⟨k1, k2, k3, k4⟩ := hok8 e hem
    have hp0 := writ_pos (x := e.2.1)
    k_steps
    unfold Paused
    refine' use_read [] (isdir_spec w e.2.1 _) (fun _ _ _ p hp => nomatch hp) (by k_asm) (by k_asm) (by k_asm) (by assumption) (by k_asm) (by exact rfl) ?ud ?uu (List.forall_mem_nil _) ?_
    case ud => ktr_room
    case uu => ktr_units
    rintro vk1 hk1 tk1 new1 F1 Nk1 hb1
    have M1 := News.sub Nk1 (fun p hp => List.mem_append_right _ hp)
    cases hb1
    clear Nk1
    k_steps
    unfold Paused
    refine' use_read [] (islnk_spec w e.2.1 _) (fun _ _ _ p hp => nomatch hp) (by k_asm) (by k_asm) (by k_asm) (by assumption) (by k_asm) (by exact rfl) ?ud ?uu (List.forall_mem_nil _) ?_
    case ud => ktr_room
    case uu => ktr_units
    rintro vk2 hk2 tk2 new2 F2 Nk2 hb2
    have M2 := News.sub Nk2 (fun p hp => List.mem_append_right _ hp)
    cases hb2
    clear Nk2
    k_steps
    unfold Paused
    refine' use_read [] (isreg_spec w e.2.1 _) (fun _ _ _ p hp => nomatch hp) (by k_asm) (by k_asm) (by k_asm) (by assumption) (by k_asm) (by exact rfl) ?ud ?uu (List.forall_mem_nil _) ?_
    case ud => ktr_room
    case uu => ktr_units
    rintro vk3 hk3 tk3 new3 F3 Nk3 hb3
    have M3 := News.sub Nk3 (fun p hp => List.mem_append_right _ hp)
    cases hb3
    clear Nk3
    k_steps
    refine' CEnd.mk (by assumption) (by assumption) [(_, _)] ?sub4 ?off4 ?dat4
    case sub4 => (repeat' (first | (refine List.forall_mem_cons.mpr ⟨by k_mem, ?_⟩) | exact List.forall_mem_nil _ | (intro p9 hp9; (repeat (first | exact hp9 | refine List.mem_cons_of_mem _ ?_)))))
    case off4 => (repeat' (first | exact List.forall_mem_nil _ | k_ne | refine List.forall_mem_cons.mpr ⟨?_, ?_⟩))
    case dat4 =>
      obtain ⟨y1, y2, y3⟩ := kinds_at k2 k3
      rw [y1, y2, y3]
      rw [List.replicate_succ']
      exact (hJ.mono (fun p hp => List.mem_cons_of_mem _ hp)).append (.cons (DatIn.list (vs := [_, _, _]) (n := 0) (List.Mem.head _) (.cons (.bool _) (.cons (.bool _) (.cons (.bool _) .nil)))) .nil)
  case fin4 =>
    rintro D4 h9 tk9 ys4 P4 hJ4 hs4 F9 N9 off9 lt9
    dsimp only [List.cons_append, List.nil_append] at N9 lt9
    k_steps
    unfold Paused
    rename_i l1 hx1 lx1 l2 hx2 FX NX lx2
    refine' KMa.mul (vs := [.ref l1]) (ws := List.replicate rs.length (.ref l1)) FX NX (PySem.IsL.isList (n := 0) (NX _ (List.Mem.head _)).1) (by omega) (by omega) ?hle ?hfl ?_
    case hle =>
      rw [Int.toNat_natCast, hv8]
      show 1 * rs.length ≤ 256
      omega
    case hfl =>
      rw [Int.toNat_natCast, hv8]
      exact flat1 _ _
    intro D5 h5 F5 N5 l5
    k_steps
    unfold Paused
    refine' eq_b3 (n := rs.length) N5 (by k_mem) hJ4 (fun p hp => tail_of (P := P4) 6 rfl p hp) (List.Mem.head _) (repl_dat (P := [(l1, W.listOf #[.bool true, .bool true, .bool true] 0)]) (DatIn.list (vs := [_, _, _]) (n := 0) (List.Mem.head _) (.cons (.bool _) (.cons (.bool _) (.cons (.bool _) .nil)))) _) (List.forall_mem_cons.mpr ⟨by k_mem, List.forall_mem_nil _⟩) (by ke_room) ?_
    k_steps
    exact hend _ _ _ F5
theorem fin : epsP epsC := by with_unfolding_all exact fun T B X pl hat hend => walk T B X pl hat hend
end E_law_r2e
theorem law_r2e (w : World) (p : Program) (loose : List Str) (mean : ExcName → Option Value) (mg mb : Str → Option Value) (h₀ : Heap) (L fa : Addr) (cd : Value) (T : Top p loose mean mg mb h₀) (B : Below callerA h₀ [] h₀) (X : (K w.params).In h₀) (s : Shared) (es : List Ev) (pp : List Nat) (pl : Plain9 es pp) (A : Nat → Addr) (V : Nat → List Value) (C : Nat → Nat) (O : Nat → Obj) (K9 : Nat → Tok) (m : Str → Option Value) (P : Led) (hat : At w h₀ L es pp A V C O K9 m P s.heap) (Q : Flow → Shared → Prop) (E : Value → Shared → Prop) (hend : ∀ h tk mm, Fr h₀ L h mm → Q (.ret (.bool true)) { s with heap := h, toks := tk }) : wpAny (model prog w) (callerA.deeper (lawE L fa cd)) (execs (fLaw.1.2.1.drop 8) (lawE L fa cd)) Q E s := of_worst (P := E_law_r2e.epsP) (h := E_law_r2e.epsN) (by with_unfolding_all exact E_law_r2e.fin) (w, p, loose, mean, mg, mb, h₀, L, fa, cd, s, es, pp, A, V, C, O, K9, m, P, Q, E) T B X pl hat hend
end
section
open PyProof.V PySem.Spec
noncomputable def fixed7 : List Int := [40368, 47356, 49119, 240554, 36913, 98256, 139817]
noncomputable def ordL (ps : List Nat) : Nat → List Nat
  | 0 => []
  | k + 1 => ordStep (ordL ps k) (ps.getD k 0) k
noncomputable def posL (xs : List Int) : List Nat := xs.mapIdx fun k x => ordPos x k
noncomputable def hrsOf (o : List Nat) (n : Nat) : List Nat := (List.range n).map o.idxOf
noncomputable def choices : Nat → List (List Nat)
  | 0 => [[]]
  | k + 1 => (choices k).flatMap fun l => (List.range (k + 1)).map fun p => l ++ [p]
noncomputable def goodOrd (o : List Nat) (n : Nat) : Bool :=
  (evalT (ltH (hrsOf o n)) (kas_sort n) == some o.toArray) && o.all (fun k => decide (k < n)) && decide (hrsOf o n).Nodup && heapOk (hrsOf o n) && ((List.range n).map (fun h => (hrsOf o n).idxOf h) == o)
theorem all_good : ∀ m : Nat, m < 5 → ∀ l ∈ choices m, goodOrd (ordL (l ++ fixed7.mapIdx fun j x => ordPos x (j + m)) (m + 7)) (m + 7) = true := by decide +kernel
theorem posL_take (xs : List Int) : ∀ k, k ≤ xs.length → posL (xs.take k) ∈ choices k
  | 0, _ => List.Mem.head _
  | k + 1, h => by
    have ih := posL_take xs k (by omega)
    have hk : k < xs.length := h
    unfold choices
    refine List.mem_flatMap.mpr ⟨_, ih, List.mem_map.mpr ⟨ordPos (xs[k]) k, List.mem_range.mpr ?_, ?_⟩⟩
    · unfold ordPos
      have h1 := Int.fmod_nonneg_of_pos (xs[k].fdiv 7) (show (0 : Int) < (k : Int) + 1 by omega)
      have h2 := Int.fmod_lt_of_pos (xs[k].fdiv 7) (show (0 : Int) < (k : Int) + 1 by omega)
      omega
    · unfold posL
      rw [List.take_add_one, List.getElem?_eq_getElem hk, Option.toList_some, List.mapIdx_append, List.length_take, Nat.min_eq_left (Nat.le_of_lt hk), List.mapIdx_cons, List.mapIdx_nil, Nat.zero_add]
theorem posL_mem (xs : List Int) : posL xs ∈ choices xs.length := by
  have := posL_take xs xs.length (Nat.le_refl _)
  rwa [List.take_length] at this
theorem ordN_L (X : List Int) : ∀ k, k ≤ X.length → ordN X k = ordL (posL X) k
  | 0, _ => rfl
  | k + 1, h => by
    rw [ordN, ordL, ordN_L X k (by omega)]
    have : (posL X).getD k 0 = ordPos (X.getD k 0) k := by
      unfold posL
      simp [List.getD_eq_getElem?_getD, List.getElem?_mapIdx, List.getElem?_eq_getElem (show k < X.length by omega)]
    rw [this]
theorem good_ord (xs : List Int) (h : xs.length ≤ 4) : goodOrd (ordN (xs ++ fixed7) (xs ++ fixed7).length) (xs ++ fixed7).length = true := by
  rw [ordN_L _ _ (Nat.le_refl _)]
  have e : posL (xs ++ fixed7) = posL xs ++ fixed7.mapIdx fun j x => ordPos x (j + xs.length) := by
    unfold posL
    rw [List.mapIdx_append]
  have e2 : (xs ++ fixed7).length = xs.length + 7 := List.length_append
  rw [e, e2]
  exact all_good xs.length (by omega) _ (posL_mem xs)
theorem hours_evs (X : List Int) : hoursOf (evs X) = hrsOf (ordN X X.length) X.length := by
  unfold hoursOf evs hrsOf evAt
  rw [List.map_map]
  rfl
structure Ord9 (es : List Ev) (pp : List Nat) : Prop where
  hpp : evalT (ltH (hoursOf es)) (kas_sort es.length) = some pp.toArray
  hpb : ∀ i ∈ pp, i < es.length
  hpl : pp.length = es.length
  hnd : (hoursOf es).Nodup
  hhp : heapOk (hoursOf es) = true
  hidx : (List.range es.length).map (fun h => (hoursOf es).idxOf h) = pp
theorem ord9 (xs : List Int) (h : xs.length ≤ 4) : Ord9 (evs (xs ++ fixed7)) (ordN (xs ++ fixed7) (xs ++ fixed7).length) := by
  have g := good_ord xs h
  unfold goodOrd at g
  rw [← hours_evs] at g
  simp only [Bool.and_eq_true, beq_iff_eq, decide_eq_true_eq, List.all_eq_true] at g
  obtain ⟨⟨⟨⟨g1, g2⟩, g3⟩, g4⟩, g5⟩ := g
  rw [← evs_len] at g1 g2 g5
  refine ⟨?_, ?_, ?_, g3, g4, ?_⟩
  · rw [evs_len]; rw [evs_len] at g1; exact g1
  · intro i hi; rw [evs_len]; rw [evs_len] at g2; exact g2 i hi
  · rw [evs_len]; exact ordN_len _ _
  · rw [evs_len] at g5 ⊢; exact g5
end
section
open PyProof.V PySem.Spec
theorem ch_slice (x : Str) {a b : Nat} (hab : a ≤ b) (hb : b ≤ x.length) : ch (Txt.slice x (some (a : Int)) (some (b : Int))) = ((ch x).drop a).take (b - a) := by
  unfold Txt.slice
  split
  · rename_i h
    have h2 : b - a = x.length := by
      rw [StrLaws.strSliceIndices_plain hab hb] at h
      simpa using h
    have ha : a = 0 := by omega
    subst ha
    rw [List.drop_zero, Nat.sub_zero, List.take_of_length_le]
    rw [ch_len]; omega
  · show ((List.filterMap _ _).toArray).toList = _
    rw [StrLaws.sliced_plain x hab hb]
    rfl
theorem ch_slice0 (x : Str) {b : Nat} (hb : b ≤ x.length) : ch (Txt.slice x none (some (b : Int))) = (ch x).take b := by
  have e : Txt.slice x none (some (b : Int)) = Txt.slice x (some ((0 : Nat) : Int)) (some (b : Int)) := by
    have q : Builtin.Str.strSliceIndices none (some (b : Int)) 1 x.length = Builtin.Str.strSliceIndices (some ((0 : Nat) : Int)) (some (b : Int)) 1 x.length := by
      unfold Builtin.Str.strSliceIndices
      have : max (0 : Int) (min 0 (x.length : Int)) = 0 := by omega
      simp [this]
    unfold Txt.slice
    rw [q]
  rw [e, ch_slice x (Nat.zero_le _) hb, List.drop_zero, Nat.sub_zero]
theorem ch_empty : ch Str.empty = [] := rfl
theorem line0_eq (v : Str) : line0 v = v := by
  unfold line0 Txt.join
  rw [StrLaws.glued_eq_join]
  rfl
theorem line1_eq (v h : Str) : line1 v h = v ++ Str.ofString "; at=\"" ++ h ++ Str.ofString "\"" ++ Str.ofString "" := by
  apply ch_inj
  unfold line1 fmtStr Txt.join
  rw [StrLaws.glued_eq_join]
  have c1 : ch (Str.ofString "; at=\"") = ch (Str.ofString "; ") ++ (ch (Str.ofString "at") ++ ch (Str.ofString "=\"")) := by decide +kernel
  have c2 : ch (Str.ofString "") = [] := by decide +kernel
  simp only [Str.join, ch_append, ch_empty, c1, c2, List.append_assoc, List.nil_append, List.append_nil]
theorem line2_eq (v h : Str) : line2 v h = v ++ Str.ofString "; at=\"" ++ h ++ Str.ofString "\"" ++ Str.ofString "; by-hand=\"x y\"" := by
  apply ch_inj
  unfold line2 fmtStr Txt.join
  rw [StrLaws.glued_eq_join]
  have c1 : ch (Str.ofString "; at=\"") = ch (Str.ofString "; ") ++ (ch (Str.ofString "at") ++ ch (Str.ofString "=\"")) := by decide +kernel
  have c2 : ch (Str.ofString "; by-hand=\"x y\"") = ch (Str.ofString "; ") ++ (ch (Txt.replace (Str.ofString "by_hand") (Str.ofString "_") (Str.ofString "-")) ++ (ch (Str.ofString "=\"") ++ (ch (Str.ofString "x y") ++ ch (Str.ofString "\"")))) := by decide +kernel
  simp only [Str.join, ch_append, ch_empty, c1, c2, List.append_assoc, List.nil_append, List.append_nil]
theorem log_line {e : Ev} (h : EvOk e) (k : Nat) : logLine k e = lineStr e.2.1 (e.2.2 : Int) (k : Int) := by
  unfold logLine lineStr
  rw [mode_eq h.2.1 h.2.2.1, show ((k : Int)).fmod 2 = ((k % 2 : Nat) : Int) from fmod_nat k 2]
  by_cases hk : k % 2 = 0
  · rw [if_pos hk, if_pos (by rw [hk]; rfl), line1_eq]
  · rw [if_neg hk, if_neg (show ¬ (((k % 2 : Nat) : Int) = 0) by omega), line2_eq]
theorem writ_len {x : Int} (h0 : 0 ≤ x) (h1 : x < 65536) : (writtenStr x).length = 10 := by rw [← mode_eq h0 h1]; exact mode_len x
theorem writ_plain {x : Int} (h0 : 0 ≤ x) (h1 : x < 65536) : Plain (writtenStr x) := by rw [← mode_eq h0 h1]; exact mode_plain x
theorem plain_ok9 {x : Str} (h : Plain x) : PyData.strOk x = true := by
  unfold PyData.strOk
  rw [← Array.all_toList, List.all_eq_true]
  intro c hc
  have := h c hc
  unfold okc at this
  exact decide_eq_true (by omega)
theorem tails (k : Int) : Plain (if k.fmod 2 = 0 then Str.ofString "" else Str.ofString "; by-hand=\"x y\"") ∧ (if k.fmod 2 = 0 then Str.ofString "" else Str.ofString "; by-hand=\"x y\"").length ≤ 16 := by
  split
  · decide +kernel
  · decide +kernel
theorem line_plain {e : Ev} (h : EvOk e) (k : Int) : Plain (lineStr e.2.1 (e.2.2 : Int) k) := by
  unfold lineStr
  exact Plain.append (Plain.append (Plain.append (Plain.append (writ_plain h.2.1 h.2.2.1) (by decide +kernel)) (hour_ok _ h.2.2.2).1) (by decide +kernel)) (tails k).1
theorem line_len {e : Ev} (h : EvOk e) (k : Int) : 19 ≤ (lineStr e.2.1 (e.2.2 : Int) k).length ∧ (lineStr e.2.1 (e.2.2 : Int) k).length ≤ 100 := by
  unfold lineStr
  have q := (tails k).2
  have c1 : (Str.ofString "; at=\"").length = 6 := by decide +kernel
  have c2 : (Str.ofString "\"").length = 1 := by decide +kernel
  simp only [Str.length_append, writ_len h.2.1 h.2.2.1, (hour_ok _ h.2.2.2).2.1, c1, c2]
  omega
theorem line_row {e : Ev} (h : EvOk e) (k : Int) : Txt.slice (lineStr e.2.1 (e.2.2 : Int) k) none (some 10) = writtenStr e.2.1 := by
  apply ch_inj
  have hl := (line_len h k).1
  refine (ch_slice0 _ (b := 10) (by omega)).trans ?_
  unfold lineStr
  simp only [ch_append, List.append_assoc]
  exact List.take_left' (by rw [ch_len]; exact writ_len h.2.1 h.2.2.1)
theorem line_hour {e : Ev} (h : EvOk e) (k : Int) : Txt.slice (lineStr e.2.1 (e.2.2 : Int) k) (some 16) (some 18) = hourStr (e.2.2 : Int) := by
  apply ch_inj
  have hl := (line_len h k).1
  refine (ch_slice _ (a := 16) (b := 18) (by decide) (by omega)).trans ?_
  unfold lineStr
  have e1 : (ch (writtenStr e.2.1) ++ ch (Str.ofString "; at=\"")).length = 16 := by
    rw [List.length_append, ch_len, ch_len, writ_len h.2.1 h.2.2.1]
    decide +kernel
  simp only [ch_append]
  rw [List.append_assoc, List.append_assoc, List.drop_left' e1]
  exact List.take_left' (by rw [ch_len]; exact (hour_ok _ h.2.2.2).2.1)
theorem hour_int : ∀ h : Nat, h < 20 → PySem.intText? (hourStr (h : Int)) = some (h : Int) := by decide +kernel
theorem log_item {e : Ev} (h : EvOk e) (k : Nat) : LogItem (e.1, logLine k e) e.2.2 := by
  rw [log_line h k]
  refine ⟨h.1, (line_len h _).2, ?_, ?_⟩
  · show PySem.intText? (Txt.slice _ _ _) = _
    rw [line_hour h]
    exact hour_int _ h.2.2.2
  · show Plain (Txt.slice _ _ _)
    rw [line_row h]
    exact writ_plain h.2.1 h.2.2.1
end
section
open PyProof.V PySem.Spec
noncomputable abbrev low (e : Ev) : Str := Txt.lower e.1
noncomputable abbrev gE (e : Ev) : Str × Str := (e.1, writtenStr e.2.1)
theorem last_cons (a : Ev) (rs : List Ev) : lastOf (a :: rs) = (if low a ∈ rs.map low then [] else [a]) ++ lastOf rs := by
  unfold lastOf
  rw [List.length_cons, List.range_succ_eq_map, List.filterMap_cons, List.filterMap_map]
  have e1 : sel (a :: rs) 0 = if low a ∈ rs.map low then none else some a := rfl
  have e2 : (sel (a :: rs)) ∘ Nat.succ = sel rs := rfl
  rw [e1, e2]
  split <;> rename_i h <;> split at h <;> rename_i h2
  · rw [if_pos h2]; rfl
  · cases h
  · cases h
  · cases h; rw [if_neg h2]; rfl
theorem last_sub : ∀ (rs : List Ev), ∀ e ∈ lastOf rs, e ∈ rs
  | [], e, h => by cases h
  | a :: rs, e, h => by
    rw [last_cons] at h
    rcases List.mem_append.mp h with h | h
    · split at h
      · cases h
      · rw [List.mem_singleton.mp h]; exact List.Mem.head _
    · exact List.mem_cons_of_mem _ (last_sub rs e h)
theorem last_snoc (e : Ev) : ∀ rs : List Ev, lastOf (rs ++ [e]) = (lastOf rs).filter (fun a => low a != low e) ++ [e]
  | [] => rfl
  | a :: rs => by
    rw [List.cons_append, last_cons, last_cons, last_snoc e rs, List.filter_append, List.append_assoc]
    refine congrArg (· ++ _) ?_
    rw [List.map_append]
    by_cases h1 : low a ∈ rs.map low
    · rw [if_pos h1, if_pos (List.mem_append_left _ h1)]; rfl
    · rw [if_neg h1]
      by_cases h2 : low a = low e
      · rw [if_pos (List.mem_append_right _ (by rw [h2]; exact List.Mem.head _)), List.filter_cons, if_neg (by simp [h2])]; rfl
      · rw [if_neg (show ¬ (low a ∈ rs.map low ++ [e].map low) from fun q => (List.mem_append.mp q).elim h1 fun q => h2 (List.mem_singleton.mp q)), List.filter_cons, if_pos (by simpa using h2)]; rfl
theorem tab_last {f : Nat → Str × Str} {rs : List Ev} (hf : ∀ h (hh : h < rs.length), f h = gE rs[h]) : ∀ k, k ≤ rs.length → tabN f k = (lastOf (rs.take k)).map gE
  | 0, _ => rfl
  | k + 1, h => by
    rw [tabN, tab_last hf k (by omega), List.take_add_one, List.getElem?_eq_getElem h, Option.toList_some, last_snoc, List.map_append, hf k h]
    refine congrArg (· ++ _) ?_
    unfold stayed
    rw [List.filter_map]
    rfl
theorem last_got : ∀ (rs : List Ev) (e : Ev), e ∈ lastOf rs → ∀ nm, Txt.lower nm = low e → (gotAll nm ((lastOf rs).map gE)).head? = some (gE e)
  | [], e, h, _, _ => by cases h
  | a :: rs, e, h, nm, hn => by
    rw [last_cons] at h ⊢
    by_cases h1 : low a ∈ rs.map low
    · rw [if_pos h1] at h ⊢
      exact last_got rs e h nm hn
    · rw [if_neg h1] at h ⊢
      unfold gotAll
      rw [List.singleton_append] at h ⊢
      rw [List.map_cons, List.filter_cons]
      by_cases ha : low a = low e
      · have hm : ¬ e ∈ lastOf rs := fun q => h1 (by rw [ha]; exact List.mem_map.mpr ⟨e, last_sub rs e q, rfl⟩)
        rcases List.mem_cons.mp h with rfl | h
        · rw [if_pos (by rw [hn]; exact beq_self_eq_true _)]; rfl
        · exact absurd h hm
      · rcases List.mem_cons.mp h with rfl | h
        · exact absurd rfl ha
        · rw [if_neg (by rw [hn]; simpa using ha)]
          exact last_got rs e h nm hn
theorem log_at {es : List Ev} {k : Nat} (hk : k < es.length) : (logPairs es)[k]? = some (es[k].1, logLine k es[k]) := by
  unfold logPairs
  rw [List.getElem?_mapIdx, List.getElem?_eq_getElem hk]; rfl
theorem evg_at {es : List Ev} {k : Nat} (hk : k < es.length) : evG es k = es[k] := by
  unfold evG
  rw [List.getD_eq_getElem?_getD, List.getElem?_eq_getElem hk]; rfl
theorem plain9_of {es : List Ev} {pp : List Nat} (h : Ord9 es pp) (hok : ∀ e ∈ es, EvOk e) (hlen : es.length ≤ 20) (h2 : 2 ≤ es.length) : Plain9 es pp := by
  have hat : ∀ k (hk : k < es.length), EvOk es[k] := fun k hk => hok _ (List.getElem_mem hk)
  have hG : ∀ k, k < es.length → EvOk (evG es k) := fun k hk => by rw [evg_at hk]; exact hat k hk
  have hL : ∀ k (hk : k < es.length), logLine k es[k] = lineOf es k := fun k hk => by
    unfold lineOf; rw [evg_at hk]; exact log_line (hat k hk) k
  have hR : ∀ k, k < es.length → row10k es k = writtenStr (evG es k).2.1 := fun k hk => line_row (hG k hk) _
  have hidx : ∀ j, j < es.length → (hoursOf es).idxOf j ∈ pp := fun j hj => by rw [← h.hidx]; exact List.mem_map.mpr ⟨j, List.mem_range.mpr hj, rfl⟩
  have hkl : ∀ j, j < es.length → (hoursOf es).idxOf j < es.length := fun j hj => h.hpb _ (hidx j hj)
  have hhr : ∀ j (hj : j < es.length), (evG es ((hoursOf es).idxOf j)).2.2 = j := fun j hj => by
    rw [evg_at (hkl j hj)]
    have q : (hoursOf es).idxOf j < (hoursOf es).length := by unfold hoursOf; rw [List.length_map]; exact hkl j hj
    have := List.getElem_idxOf q
    unfold hoursOf at this
    rwa [List.getElem_map] at this
  have htab : ∀ j, j < es.length → tabOf es j = gE (evG es ((hoursOf es).idxOf j)) := fun j hj => by
    have hk := hkl j hj
    unfold tabOf byHour row10
    rw [List.getD_eq_getElem?_getD, log_at hk, Option.getD_some, hL _ hk]
    exact Prod.ext (congrArg (·.1) (evg_at hk).symm) (hR _ hk)
  have hrl : (pp.map (evG es)).length = es.length := by rw [List.length_map, h.hpl]
  have hrs : ∀ j (hj : j < (pp.map (evG es)).length), tabOf es j = gE (pp.map (evG es))[j] := fun j hj => by
    rw [htab j (by rw [← hrl]; exact hj)]
    have : pp.map (evG es) = (List.range es.length).map fun j => evG es ((hoursOf es).idxOf j) := by
      conv => lhs; rw [← h.hidx]
      rw [List.map_map]; rfl
    simp only [this, List.getElem_map, List.getElem_range]
  have hTab : tabN (tabOf es) es.length = (lastOf (pp.map (evG es))).map gE := by
    have := tab_last hrs es.length (by rw [hrl]; exact Nat.le_refl _)
    rwa [List.take_of_length_le (by rw [hrl]; exact Nat.le_refl _)] at this
  have hlast : ∀ e ∈ lastOf (pp.map (evG es)), EvOk e := fun e he => by
    obtain ⟨k, hk, rfl⟩ := List.mem_map.mp (last_sub _ e he)
    exact hG k (h.hpb k hk)
  have hso : ∀ {e : Ev}, EvOk e → PyData.strOk e.1 = true ∧ PyData.strOk (writtenStr e.2.1) = true := fun he => ⟨plain_ok9 (name_plain _ he.1).1, plain_ok9 (writ_plain he.2.1 he.2.2.1)⟩
  have hlp : ∀ q ∈ logPairs es, ∃ (k : Nat) (hk : k < es.length), q = (es[k].1, logLine k es[k]) := fun q hq => by
    obtain ⟨k, hk, rfl⟩ := List.mem_mapIdx.mp hq
    exact ⟨k, hk, rfl⟩
  have hpl : ∀ q ∈ plainPairs es, ∃ e ∈ es, q = gE e := fun q hq => by
    obtain ⟨e, he, rfl⟩ := List.mem_map.mp hq
    have hm := List.mem_of_mem_take he
    have ho := hok e hm
    exact ⟨e, hm, by rw [line0_eq, mode_eq ho.2.1 ho.2.2.1]⟩
  refine { hlen := hlen, h2 := h2, hok := hok, hpp := h.hpp, hpb := h.hpb, hpl := h.hpl, hnd := h.hnd, hhp := h.hhp, hlg := ?_, hll := fun k hk => (line_len (hG k hk) _).2, hA := ?_, hB := ?_, hql := ?_, hso := ?_, hC := ?_, hD := hTab.symm, hlast := hlast, hget := ?_, hqlT := ?_, hsoW := fun x a b => plain_ok9 (writ_plain a b), hsoT := ?_, hsoQ := ?_, hso2 := ?_ }
  · intro i q hr hq hh
    have hi : i < es.length := by
      have := (List.getElem?_eq_some_iff.mp hh).1
      unfold hoursOf at this
      rwa [List.length_map] at this
    rw [log_at hi] at hq
    unfold hoursOf at hh
    rw [List.getElem?_map, List.getElem?_eq_getElem hi] at hh
    cases hq
    cases hh
    exact log_item (hat i hi) i
  · apply List.ext_getElem?
    intro k
    by_cases hk : k < es.length
    · rw [log_at hk, List.getElem?_map, List.getElem?_range hk, Option.map_some, evg_at hk, hL k hk]
    · rw [List.getElem?_eq_none (by rw [List.length_map, List.length_range]; omega), List.getElem?_eq_none (by unfold logPairs; rw [List.length_mapIdx]; omega)]
  · unfold plainPairs
    apply List.ext_getElem?
    intro k
    by_cases hk : k < min 3 es.length
    · have hk2 : k < es.length := by omega
      have ho := hat k hk2
      rw [List.getElem?_map, List.getElem?_range hk, List.getElem?_map, List.getElem?_take, if_pos (by omega), List.getElem?_eq_getElem hk2, Option.map_some, Option.map_some, line0_eq, mode_eq ho.2.1 ho.2.2.1, hR k hk2, evg_at hk2]
    · rw [List.getElem?_eq_none (by rw [List.length_map, List.length_range]; omega), List.getElem?_eq_none (by rw [List.length_map, List.length_take]; omega)]
  · intro q hq
    obtain ⟨k, hk, rfl⟩ := hlp q hq
    exact (name_plain _ (hat k hk).1).2
  · intro q hq
    obtain ⟨k, hk, rfl⟩ := hlp q hq
    refine ⟨(hso (hat k hk)).1, ?_⟩
    rw [log_line (hat k hk)]
    exact plain_ok9 (line_plain (hat k hk) _)
  · conv => rhs; rw [← h.hidx]
    rw [List.map_map]
    refine List.map_congr_left fun j hj => ?_
    have hj2 := List.mem_range.mp hj
    show popD (tabOf es) j = Dat.tuple [.int ((evG es ((hoursOf es).idxOf j)).2.2 : Int), .str (evG es ((hoursOf es).idxOf j)).1, .str (row10k es ((hoursOf es).idxOf j))]
    unfold popD
    rw [htab j hj2, hhr j hj2, hR _ (hkl j hj2)]
  · intro e he nm hn
    rw [hTab]
    exact last_got _ e he nm hn
  · intro q hq
    rw [hTab] at hq
    obtain ⟨e, he, rfl⟩ := List.mem_map.mp hq
    exact (name_plain _ (hlast e he).1).2
  · intro q hq
    rw [hTab] at hq
    obtain ⟨e, he, rfl⟩ := List.mem_map.mp hq
    exact hso (hlast e he)
  · intro k hk
    rw [htab k hk]
    exact hso (hG _ (hkl k hk))
  · intro q hq
    obtain ⟨e, he, rfl⟩ := hpl q hq
    exact hso (hok e he)
theorem plain_ok (xs : List Int) (h : xs.length ≤ 4) : ∃ pp, Plain9 (evs (xs ++ fixed7)) pp := by
  have hl : (evs (xs ++ fixed7)).length = xs.length + 7 := by rw [evs_len, List.length_append]; rfl
  exact ⟨_, plain9_of (ord9 xs h) (evs_ok (by rw [List.length_append]; show xs.length + 7 ≤ 20; omega)) (by omega) (by omega)⟩
end
end
end
end
end
end
end
end
end
end
end
end
end
end
end
end
end
end
end
end
end
end
end
end
end
end
theorem sweepP23a {M : Model} {A : Around} {env : Env} {Q : Flow → Shared → Prop} {E : Value → Shared → Prop} {s : Shared} (h : wpAny M A (execs [] env) Q E s) : wpAny M A (execs [] env) Q E s := by w_top off; first | (walk1; fail "swept") | exact h
section
open PyProof.V PySem.Spec
local macro_rules | `(tactic| k_all) => `(tactic| k_extra "mk1")
local macro_rules | `(tactic| k_all) => `(tactic| walk_at "mine k4")
section
open PyProof.V PySem.Spec
local macro_rules | `(tactic| walk_at "LeaveK") => `(tactic| k_extra "mv6")
local macro_rules | `(tactic| walk_at "LeaveK") => `(tactic| k_extra "mv1")
section
open PyProof.V PySem.Spec
local macro_rules | `(tactic| walk_at "UnrEndW") => `(tactic| k_extra "mv7")
local macro_rules | `(tactic| walk_at "UnrEndW") => `(tactic| refine Paused.intro ?_)
section
open PyProof.V PySem.Spec
local macro_rules | `(tactic| walk_at "binaryOp Add ref ref") => `(tactic| refine Paused.intro ?_)
section
open PyProof.V PySem.Spec
local macro_rules | `(tactic| walk_at "call builtin:len") => `(tactic| refine Paused.intro ?_)
local macro_rules | `(tactic| walk_at "call builtin:len") => `(tactic| k_extra "mv33")
section
open PyProof.V PySem.Spec
local macro_rules | `(tactic| walk_at "call builtin:list.append") => `(tactic| refine Paused.intro ?_)
section
open PyProof.V PySem.Spec
local macro_rules | `(tactic| walk_at "call builtin:sorted") => `(tactic| refine Paused.intro ?_)
section
open PyProof.V PySem.Spec
local macro_rules | `(tactic| walk_at "call builtin:str.replace") => `(tactic| (k_dflt (refine replace_no (by first | assumption | decide +kernel) ?_); (try dsimp only)))
section
open PyProof.V PySem.Spec
local macro_rules | `(tactic| walk_at "call builtin:sum") => `(tactic| refine Paused.intro ?_)
section
open PyProof.V PySem.Spec
local macro_rules | `(tactic| walk_at "call ref") => `(tactic| refine Paused.intro ?_)
section
open PyProof.V PySem.Spec
local macro_rules | `(tactic| walk_at "eval ListComp") => `(tactic| refine Paused.intro ?_)
section
open PyProof.V PySem.Spec
local macro_rules | `(tactic| walk_at "exec For Tuple Call cons nil") => `(tactic| refine Paused.intro ?_)
section
open PyProof.V PySem.Spec
local macro_rules | `(tactic| walk_at "execs nil") => `(tactic| k_extra "mv4")
section
open PyProof.V PySem.Spec
local macro_rules | `(tactic| walk_at "mine frame") => `(tactic| (rename_i y9 hy9; (repeat first | rw [if_neg (off_st hy9 (by decide +kernel))] | rw [if_neg (off_in hy9)])))
section
open PyProof.V PySem.Spec
local macro_rules | `(tactic| walk_at "subscriptTail Name Slice ref ref") => `(tactic| refine Paused.intro ?_)
section
open PyProof.V PySem.Spec
local macro_rules | `(tactic| walk_at "call type:enumerate") => `(tactic| refine Paused.intro ?_)
section
open PyProof.V PySem.Spec
local macro_rules | `(tactic| walk_at "call type:zip") => `(tactic| refine Paused.intro ?_)
section
open PyProof.V PySem.Spec
local macro_rules | `(tactic| walk_at "compareOp Eq ref ref") => `(tactic| refine Paused.intro ?_)
section
open PyProof.V PySem.Spec
local macro_rules | `(tactic| walk_at "compareOp NotEq ref ref") => `(tactic| refine Paused.intro ?_)
section
open PyProof.V PySem.Spec
local macro_rules | `(tactic| walk_at "eval Name") => `(tactic| (k_dflt (refine' nameX_L ?k1 ?k2 ?_; (case k1 => k_asm); (case k2 => assumption); k_whole)))
section
open PyProof.V PySem.Spec
local macro_rules | `(tactic| walk_at "exec Assign cons ListComp") => `(tactic| refine Paused.intro ?_)
section
open PyProof.V PySem.Spec
local macro_rules | `(tactic| walk_at "exec For Name List cons nil") => `(tactic| refine Paused.intro ?_)
section
open PyProof.V PySem.Spec
local macro_rules | `(tactic| walk_at "execs cons") => `(tactic| k_extra "mv4")
section
open PyProof.V PySem.Spec
local macro_rules | `(tactic| walk_at "subscriptTail Name Constant ref int") => `(tactic| k_extra "mv36")
section
open PyProof.V PySem.Spec
local macro_rules | `(tactic| walk_at "subscriptTail Name Name ref int") => `(tactic| refine Paused.intro ?_)
local macro_rules | `(tactic| walk_at "subscriptTail Name Name ref int") => `(tactic| k_extra "mv34")
theorem sweepP23 {M : Model} {A : Around} {env : Env} {Q : Flow → Shared → Prop} {E : Value → Shared → Prop} {s : Shared} (h : wpAny M A (execs [] env) Q E s) : wpAny M A (execs [] env) Q E s := by w_top off; first | (walk1; fail "swept") | exact h
section
open PyProof.V PySem.Spec
noncomputable def names4 : List Str := [Str.ofString "aB", Str.ofString "Ac", Str.ofString "b", Str.ofString "a"]
theorem names4_ok : ∀ nm ∈ names4, Plain (Txt.lower nm) ∧ (Txt.lower nm).length ≤ 10 ∧ nm.length ≤ 10 := by decide +kernel
noncomputable def mineSel (es : List Ev) (nm : Str) (k : Nat) : Option Str := if (Txt.lower (evG es k).1 == Txt.lower nm) = true then some (lineOf es k) else none
noncomputable def mineOf (es : List Ev) (nm : Str) : List Str := (List.range es.length).filterMap (mineSel es nm)
noncomputable def firstD (gs : List Str) (d : Dat) : Dat := match gs with
  | [] => d
  | x :: _ => .str x
theorem dat_strs {led led' : Led} : ∀ {ys : List Value} {xs : List Str}, DatAll led ys (xs.map Dat.str) → DatAll led' ys (xs.map Dat.str)
  | [], [], _ => .nil
  | _ :: _, [], h => nomatch h
  | [], _ :: _, h => nomatch h
  | _ :: _, _ :: _, .cons h1 h2 => by cases h1; exact .cons (.str _ _) (dat_strs h2)
theorem first_at {led : Led} {ys : List Value} {gs : List Str} {v : Value} {d : Dat} (h : DatAll led ys (gs.map Dat.str)) (hv : DatIn led v d) : ∃ u, (ys ++ [v])[0]? = some u ∧ DatIn led u (firstD gs d) := by
  match gs, h with
  | [], .nil => exact ⟨v, rfl, hv⟩
  | x :: r, .cons h1 h2 => exact ⟨_, rfl, h1⟩
theorem first_news {h₀ h : Heap} {L a : Addr} {n : Nat} {r led : Led} {ys : List Value} {gs : List Str} {v : Value} {d : Dat} (_N : News h₀ L h ((a, W.listOf (ys ++ [v]).toArray n) :: r)) (h : DatAll led ys (gs.map Dat.str)) (hv : DatIn led v d) : ∃ u, (ys ++ [v])[0]? = some u ∧ DatIn led u (firstD gs d) := first_at h hv
theorem got_in {cells n : Led} {dv v : Value} {d : Dat} {o : List (Str × Str)} (h : GotFirst cells dv o.head? n v) (hd : DatIn [] dv d) : DatIn [] v (firstD (o.map (·.2)) d) := by
  match o, h.1 with
  | [], h => rw [show v = dv from h]; exact hd
  | q :: r, h => obtain ⟨t, ht⟩ := h; rw [ht]; exact .str _ _
theorem first_ok {gs : List Str} {d : Dat} (h : ∀ x ∈ gs, PyData.strOk x = true) (hd : kqdOk 8 d = true) : kqdOk 8 (firstD gs d) = true := by
  match gs with
  | [] => exact hd
  | x :: r => exact h x (.head _)
theorem strs_ok {gs : List Str} (h : ∀ x ∈ gs, PyData.strOk x = true) : kqdOk 8 (.list (gs.map Dat.str)) = true := by
  show (gs.map Dat.str).all (kqdOk 7) = true
  rw [List.all_eq_true]
  intro d hd
  obtain ⟨x, hx, rfl⟩ := List.mem_map.mp hd
  exact h x hx
theorem mine_got {es : List Ev} {pp : List Nat} (pl : Plain9 es pp) (nm : Str) : mineOf es nm = (gotAll nm (logPairs es)).map (·.2) := by
  unfold mineOf gotAll
  rw [← pl.hA]
  generalize List.range es.length = l
  induction l with
  | nil => rfl
  | cons k l ih =>
    rw [List.filterMap_cons, List.map_cons, List.filter_cons]
    unfold mineSel
    by_cases hk : (Txt.lower (evG es k).1 == Txt.lower nm) = true
    · rw [if_pos hk]; simp only [hk, if_true, List.map_cons]; rw [← ih]; rfl
    · rw [if_neg hk]; simp only [hk, Bool.false_eq_true, if_false]; rw [← ih]; rfl
namespace E_law_r2b
noncomputable def epsP (q : World × Program × (List Str) × (ExcName → Option Value) × (Str → Option Value) × (Str → Option Value) × Heap × Addr × Addr × Value × Shared × (List Ev) × (List Nat) × (Nat → Addr) × (Nat → List Value) × (Nat → Nat) × (Nat → Obj) × (Nat → Tok) × (Str → Option Value) × Led × (Flow → Shared → Prop) × (Value → Shared → Prop)) : Prop := (fun (w : World) (p : Program) (loose : List Str) (mean : ExcName → Option Value) (mg : Str → Option Value) (mb : Str → Option Value) (h₀ : Heap) (L : Addr) (fa : Addr) (cd : Value) (s : Shared) (es : List Ev) (pp : List Nat) (A : Nat → Addr) (V : Nat → List Value) (C : Nat → Nat) (O : Nat → Obj) (K9 : Nat → Tok) (m : Str → Option Value) (P : Led) (Q : Flow → Shared → Prop) (E : Value → Shared → Prop) => ∀ (T : Top p loose mean mg mb h₀) (B : Below callerA h₀ [] h₀) (X : (K w.params).In h₀) (pl : Plain9 es pp) (hat : At w h₀ L es pp A V C O K9 m P s.heap) (hE9 : PassesOwn (model prog w) (callerA.deeper (lawE L fa cd)) (lawE L fa cd) E) (hnext : ∀ O m P h tk, At w h₀ L es pp A V C O K9 m P h → wpAny (model prog w) (callerA.deeper (lawE L fa cd)) (execs (fLaw.1.2.1.drop 6) (lawE L fa cd)) Q E { s with heap := h, toks := tk }), wpAny (model prog w) (callerA.deeper (lawE L fa cd)) (execs (fLaw.1.2.1.drop 5) (lawE L fa cd)) Q E s) q.1 q.2.1 q.2.2.1 q.2.2.2.1 q.2.2.2.2.1 q.2.2.2.2.2.1 q.2.2.2.2.2.2.1 q.2.2.2.2.2.2.2.1 q.2.2.2.2.2.2.2.2.1 q.2.2.2.2.2.2.2.2.2.1 q.2.2.2.2.2.2.2.2.2.2.1 q.2.2.2.2.2.2.2.2.2.2.2.1 q.2.2.2.2.2.2.2.2.2.2.2.2.1 q.2.2.2.2.2.2.2.2.2.2.2.2.2.1 q.2.2.2.2.2.2.2.2.2.2.2.2.2.2.1 q.2.2.2.2.2.2.2.2.2.2.2.2.2.2.2.1 q.2.2.2.2.2.2.2.2.2.2.2.2.2.2.2.2.1 q.2.2.2.2.2.2.2.2.2.2.2.2.2.2.2.2.2.1 q.2.2.2.2.2.2.2.2.2.2.2.2.2.2.2.2.2.2.1 q.2.2.2.2.2.2.2.2.2.2.2.2.2.2.2.2.2.2.2.1 q.2.2.2.2.2.2.2.2.2.2.2.2.2.2.2.2.2.2.2.2.1 q.2.2.2.2.2.2.2.2.2.2.2.2.2.2.2.2.2.2.2.2.2
theorem epsN : Nonempty (World × Program × (List Str) × (ExcName → Option Value) × (Str → Option Value) × (Str → Option Value) × Heap × Addr × Addr × Value × Shared × (List Ev) × (List Nat) × (Nat → Addr) × (Nat → List Value) × (Nat → Nat) × (Nat → Obj) × (Nat → Tok) × (Str → Option Value) × Led × (Flow → Shared → Prop) × (Value → Shared → Prop)) := ⟨(Classical.choice neWorld, default, default, default, default, default, default, default, default, default, {}, default, default, default, default, default, default, default, default, default, default, default)⟩
@[irreducible] noncomputable def epsC : World × Program × (List Str) × (ExcName → Option Value) × (Str → Option Value) × (Str → Option Value) × Heap × Addr × Addr × Value × Shared × (List Ev) × (List Nat) × (Nat → Addr) × (Nat → List Value) × (Nat → Nat) × (Nat → Obj) × (Nat → Tok) × (Str → Option Value) × Led × (Flow → Shared → Prop) × (Value → Shared → Prop) := worst epsN epsP
@[irreducible] noncomputable def w : World := epsC.1
@[irreducible] noncomputable def p : Program := epsC.2.1
@[irreducible] noncomputable def loose : List Str := epsC.2.2.1
@[irreducible] noncomputable def mean : ExcName → Option Value := epsC.2.2.2.1
@[irreducible] noncomputable def mg : Str → Option Value := epsC.2.2.2.2.1
@[irreducible] noncomputable def mb : Str → Option Value := epsC.2.2.2.2.2.1
@[irreducible] noncomputable def h₀ : Heap := epsC.2.2.2.2.2.2.1
@[irreducible] noncomputable def L : Addr := epsC.2.2.2.2.2.2.2.1
@[irreducible] noncomputable def fa : Addr := epsC.2.2.2.2.2.2.2.2.1
@[irreducible] noncomputable def cd : Value := epsC.2.2.2.2.2.2.2.2.2.1
@[irreducible] noncomputable def s : Shared := epsC.2.2.2.2.2.2.2.2.2.2.1
@[irreducible] noncomputable def es : List Ev := epsC.2.2.2.2.2.2.2.2.2.2.2.1
@[irreducible] noncomputable def pp : List Nat := epsC.2.2.2.2.2.2.2.2.2.2.2.2.1
@[irreducible] noncomputable def A : Nat → Addr := epsC.2.2.2.2.2.2.2.2.2.2.2.2.2.1
@[irreducible] noncomputable def V : Nat → List Value := epsC.2.2.2.2.2.2.2.2.2.2.2.2.2.2.1
@[irreducible] noncomputable def C : Nat → Nat := epsC.2.2.2.2.2.2.2.2.2.2.2.2.2.2.2.1
@[irreducible] noncomputable def O : Nat → Obj := epsC.2.2.2.2.2.2.2.2.2.2.2.2.2.2.2.2.1
@[irreducible] noncomputable def K9 : Nat → Tok := epsC.2.2.2.2.2.2.2.2.2.2.2.2.2.2.2.2.2.1
@[irreducible] noncomputable def m : Str → Option Value := epsC.2.2.2.2.2.2.2.2.2.2.2.2.2.2.2.2.2.2.1
@[irreducible] noncomputable def P : Led := epsC.2.2.2.2.2.2.2.2.2.2.2.2.2.2.2.2.2.2.2.1
@[irreducible] noncomputable def Q : Flow → Shared → Prop := epsC.2.2.2.2.2.2.2.2.2.2.2.2.2.2.2.2.2.2.2.2.1
@[irreducible] noncomputable def E : Value → Shared → Prop := epsC.2.2.2.2.2.2.2.2.2.2.2.2.2.2.2.2.2.2.2.2.2
theorem walk (T : Top p loose mean mg mb h₀) (B : Below callerA h₀ [] h₀) (X : (K w.params).In h₀) (pl : Plain9 es pp) (hat : At w h₀ L es pp A V C O K9 m P s.heap) (hE9 : PassesOwn (model prog w) (callerA.deeper (lawE L fa cd)) (lawE L fa cd) E) (hnext : ∀ O m P h tk, At w h₀ L es pp A V C O K9 m P h → wpAny (model prog w) (callerA.deeper (lawE L fa cd)) (execs (fLaw.1.2.1.drop 6) (lawE L fa cd)) Q E { s with heap := h, toks := tk }) : wpAny (model prog w) (callerA.deeper (lawE L fa cd)) (execs (fLaw.1.2.1.drop 5) (lawE L fa cd)) Q E s := by
  have hlen := pl.hlen
  have hvE := hat.vE
  have hvL := hat.vL
  have hvN := hat.vN
  have F := hat.F
  have N := hat.N
  have cL := hat.cL
  have cE := hat.cE
  dsimp only [List.drop] at hnext ⊢
  k_steps
  unfold Paused
  refine For_turns F ?_ (hE := hE9)
  k_steps
  rename_i lF _ F1 N1 l1
  have hlF : @Ne Nat lF (L + 1 + 1 + 1 + 1 + 1) := Nat.ne_of_gt (l1 _ hat.iN)
  have N2 := News.sub N1 (news' := (L + 1 + 1 + 1 + 1 + 1, O 0) :: (lF, _) :: offCell (L + 1 + 1 + 1 + 1 + 1) P) (List.forall_mem_cons.mpr ⟨List.mem_cons_of_mem _ hat.iN, List.forall_mem_cons.mpr ⟨List.Mem.head _, fun p hp => List.mem_cons_of_mem _ (off_sub9 p hp)⟩⟩)
  have hRN : ∀ p ∈ offCell (L + 1 + 1 + 1 + 1 + 1) P, @Ne Nat p.1 (L + 1 + 1 + 1 + 1 + 1) := off_ne
  have dE := DatAll.offc hat.seqNe hat.hE
  have dL := DatAll.offc hat.seqNe hat.hL
  have dN := DatAll.offc hat.seqNe hat.hN
  have sq := fun {p : Addr × Obj} (hp : p ∈ P) (ho : ∀ v, p.2.data ≠ .cell v) => mem_off hp (cell_ne hat.N hat.iN hat.cN hp ho)
  have i0 := sq hat.i0 (fun _ => nofun)
  have i1 := sq hat.i1 (fun _ => nofun)
  have i2 := sq hat.i2 (fun _ => nofun)
  have i3 := sq hat.i3 (fun _ => nofun)
  have i7 := sq hat.i7 (fun _ => nofun)
  have iL := mem_off hat.iL (show @Ne Nat (L + 1 + 1 + 1) (L + 1 + 1 + 1 + 1 + 1) from by omega)
  have iE := mem_off hat.iE (show @Ne Nat (L + 1 + 1) (L + 1 + 1 + 1 + 1 + 1) from by omega)
  have fin := fun (oF oN : Obj) (h : Heap) (m' : Str → Option Value) (d : ∃ v, oN.data = .cell v) (FF : Fr h₀ L h m') (hm : ∀ y, ¬ y = Str.ofString "mine" → m' y = m y) (NN : News h₀ L h ((L + 1 + 1 + 1 + 1 + 1, oN) :: (lF, oF) :: offCell (L + 1 + 1 + 1 + 1 + 1) P)) => hat.turn d (List.Mem.head _) (fun p hp => List.mem_cons_of_mem _ (List.mem_cons_of_mem _ hp)) FF NN ((hm _ (by decide)).trans hat.mQ) ((hm _ (by decide)).trans hat.mZ) ((hm _ (by decide)).trans hat.mP) ((hm _ (by decide)).trans hat.mL)
  generalize offCell (L + 1 + 1 + 1 + 1 + 1) P = R at *
  refine iter_listTurns (vs := [.str (Str.ofString "aB") _, .str (Str.ofString "Ac") _, .str (Str.ofString "b") _, .str (Str.ofString "a") _]) (by exact rfl) F1 N2 (.tail _ (List.Mem.head _)) rfl rfl (fun I hI => ?_)
  refine items_from0 (fun i m' news => (∀ y, ¬ y = Str.ofString "mine" → m' y = m y) ∧ ∃ oN, (∃ v, oN.data = .cell v) ∧ news = (L + 1 + 1 + 1 + 1 + 1, oN) :: (lF, _) :: R) ?step ?done ⟨fun _ _ => rfl, O 0, hat.cN, rfl⟩
  case done =>
    rintro m' news h9 tk9 ⟨hm, oN, hoN, rfl⟩ F9 N9
    exact hnext _ _ _ _ _ (fin _ oN h9 m' hoN F9 hm N9)
  case step =>
    rintro i a9 m' news ha ⟨hm, oN, ⟨v0, hoN⟩, rfl⟩ v9 h9 tk9 hv9 F9
    refine AllObj.cons (fun o9 c9 => AllObj.nil (fun N9 => ?_))
    obtain ⟨nm, t9, hnm, rfl⟩ : ∃ nm t, nm ∈ names4 ∧ v9 = Value.str nm t := by
      match i, ha with
      | 0, ha => cases ha; cases hv9; exact ⟨_, _, by decide, rfl⟩
      | 1, ha => cases ha; cases hv9; exact ⟨_, _, by decide, rfl⟩
      | 2, ha => cases ha; cases hv9; exact ⟨_, _, by decide, rfl⟩
      | 3, ha => cases ha; cases hv9; exact ⟨_, _, by decide, rfl⟩
      | n + 4, ha => cases ha
    clear ha hv9
    obtain ⟨k1, k2, k3⟩ := names4_ok nm hnm
    have mL := (hm (Str.ofString "log") (by decide)).trans hat.mL
    have hI2 := hI _ (List.Mem.head _)
    have hI3 := hI _ (.tail _ (List.Mem.head _))
    dsimp only [List.cons_append, List.nil_append] at N9 hI2 hI3
    k_steps
    refine' storeX_C ?sF ?sN ?sc ?sU ?sd ?_ ?sk ?sx
    case sk => rfl
    case sx => rfl
    case sF => exact F9
    case sN => exact N9
    case sc => rfl
    case sU => exact UpdF.tail (Nat.ne_of_gt hI2) (UpdF.head (List.forall_mem_cons.mpr ⟨hlF, hRN⟩))
    case sd => exact hoN
    intro h8 oN8 F8 N8 dN8
    k_steps
    unfold Paused
    refine comp_assign (ct := some _) (by with_unfolding_all rfl) (by with_unfolding_all rfl) (by rfl) (by decide) ?_
    have NM := News.mix (P := R) N8 3 rfl [0, 1, 2] (in4 iL iE i0 i7) [0, 1, 2, 3]
    dsimp only [pickN, atN, List.cons_append, List.nil_append] at NM
    clear N8 N9
    k_steps
    rename_i hIR FR NR upR
    refine comp_range (n := (V 0).length) (names := [Str.ofString "k"]) (fix := [(I, o9), (L + 1 + 1 + 1 + 1 + 1, oN8), (lF, _), (L + 1 + 1 + 1, O 2), (L + 1 + 1, O 3), (A 0, W.listOf (V 0).toArray (C 0)), (A 7, W.listOf (V 7).toArray (C 7))]) (add₀ := R) (J := fun i ys add => DatAll add ys (((List.range i).filterMap (mineSel es nm)).map Dat.str) ∧ add = R) (B := fun i vals => ∃ t, vals = [Value.int (i : Int) t]) (by exact rfl) FR NR hIR (range_small (by omega)) (range_size _) (by rw [sizeLine_eq]; omega) (by decide) (by rfl) (by decide) (by decide) (fun i t hi => ⟨[.int (i : Int) t], fun h => by rw [Int.zero_add]; exact .name, rfl, t, rfl⟩) ⟨.nil, rfl⟩ (fin_assign (env := lawE L fa cd) (y := Str.ofString "mine") (by rfl) (by rfl)) (fun I => ?step1) ?fin1
    case step1 =>
      rintro i ys add vals oC C9 D9 m₂ h8 tk8 E8 hi hJ hs ⟨t8, rfl⟩ hC hx F8
      refine AllObj.cons (fun o8 c8 => AllObj.nil (fun N8 off8 => ?_))
      simp only [List.zip_cons_cons, List.zip_nil_right, List.forall_mem_cons] at hx
      obtain ⟨hx8, _⟩ := hx
      dsimp only [List.cons_append, List.nil_append] at N8 hx8
      show wpAny _ _ (isTrue _ _ _) _ _ _
      obtain ⟨hJ, rfl⟩ := hJ
      clear NR FR upR hIR
      obtain ⟨v9, hv9⟩ : ∃ v, (V 0)[i]? = some v := ⟨_, List.getElem?_eq_getElem (by omega)⟩
      obtain ⟨e, Te, t1, t2, t3, n9, he, rfl, hm⟩ := ev_at dE hv9
      obtain ⟨t7, hv7⟩ := str_at dN (show i < es.length by omega)
      have hel := (name_plain _ (pl.hok e (List.mem_of_getElem? he)).1).2
      have N9 := News.more N8 (tail_of 10 rfl _ hm)
      clear N8
      k_steps
      · refine' CEnd.mk (by assumption) (by assumption) [] (fun p hp => List.mem_cons_of_mem _ hp) (List.forall_mem_nil _) ⟨dat_yes hJ (fun _ h => h) ?_ (.str _ _), rfl⟩
        unfold mineSel
        rw [evG_at he]
        exact if_pos (by assumption)
      · refine' CEnd.mk (by assumption) (by assumption) [] (fun p hp => List.mem_cons_of_mem _ hp) (List.forall_mem_nil _) ⟨dat_no hJ (fun _ h => h) ?_, rfl⟩
        unfold mineSel
        rw [evG_at he]
        exact if_neg (by rw [(by assumption : (Txt.lower e.1 == Txt.lower nm) = false)]; exact Bool.false_ne_true)
    case fin1 =>
      rintro D2 h7 tk7 ys2 R2 ⟨hM, rfl⟩ hs7 F7 N7 off7 lt7
      rw [hvE] at hM
      have hM2 : DatAll [] ys2 (((gotAll nm (logPairs es)).map (·.2)).map Dat.str) := by rw [← mine_got pl nm]; exact dat_strs hM
      have hys : ys2.length ≤ es.length := by
        rw [hM.length, List.length_map]
        exact Nat.le_trans (List.length_filterMap_le _ _) (Nat.le_of_eq List.length_range)
      obtain ⟨m2, F8, mM2, hm2⟩ : ∃ m2, Fr h₀ L h7 m2 ∧ m2 (Str.ofString "mine") = some (.ref D2) ∧ ∀ y, ¬ y = Str.ofString "mine" → m2 y = m y := ⟨_, F7, if_pos rfl, fun y hy => (if_neg hy).trans (hm y hy)⟩
      have mL2 := (hm2 (Str.ofString "log") (by decide)).trans hat.mL
      have NY := News.mix (P := R2) N7 8 rfl [0, 1, 2, 3] (in2 i2 i3) [0, 1]
      dsimp only [pickN, atN, List.cons_append, List.nil_append] at NY
      have lt8 := lt7 _ (List.Mem.head _)
      clear hIR N7 F7 off7 lt7
      have hql : ∀ q ∈ logPairs es, q.1.length ≤ 10 := pl.hql
      have hcl : ∀ p ∈ ((A 1, W.listOf (V 1).toArray (C 1)) :: (A 2, instObj 182 (A 3)) :: (A 3, hDict w (K9 1) (A 1)) :: R2), p ∈ R2 := List.forall_mem_cons.mpr ⟨i1, List.forall_mem_cons.mpr ⟨i2, List.forall_mem_cons.mpr ⟨i3, fun _ h => h⟩⟩⟩
      k_steps
      unfold Paused
      refine' use_read ((A 1, W.listOf (V 1).toArray (C 1)) :: (A 2, instObj 182 (A 3)) :: (A 3, hDict w (K9 1) (A 1)) :: R2) (getall_spec w (A 2) (A 3) (A 1) (K9 1) t9 (V 1) (C 1) nm (logPairs es) R2 dL (by omega) hat.a1 k1 k2 k3 hql) (fun n' v ⟨_, _, _, _, _, hs⟩ p hp => hs p (List.mem_cons_of_mem _ hp)) (by k_asm) (by k_asm) (by k_asm) (by assumption) (by k_asm) (by exact rfl) ?ud ?uu (fun p hp => tail_of (P := R2) 6 rfl p (hcl p hp)) ?_
      case ud => ktr_room
      case uu => ktr_units
      rintro v4 h4 tk4 new4 F4 N4 ⟨lG, yG, nG, rfl, hG, hsG⟩
      have hG2 : DatAll [] yG (((gotAll nm (logPairs es)).map (·.2)).map Dat.str) := dat_strs (xs := (gotAll nm (logPairs es)).map (·.2)) (by rw [List.map_map]; exact hG)
      have N5 := News.sub N4 (List.forall_mem_cons.mpr ⟨List.mem_append_left _ (hsG _ (List.Mem.head _)), fun p hp => List.mem_append_right _ hp⟩)
      clear N4 hsG hG
      k_steps
      unfold Paused
      refine' use_read ((A 1, W.listOf (V 1).toArray (C 1)) :: (A 2, instObj 182 (A 3)) :: (A 3, hDict w (K9 1) (A 1)) :: R2) (get_spec w (A 2) (A 3) (A 1) (K9 1) t9 (V 1) (C 1) nm (logPairs es) R2 dL (by omega) hat.a1 k1 k2 k3 hql) (fun n' v (h : GotFirst _ _ _ n' v) => h.2) (by k_asm) (by k_asm) (by k_asm) (by assumption) (by k_asm) (by exact rfl) ?ud ?uu (fun p hp => tail_of (P := R2) 7 rfl p (hcl p hp)) ?_
      case ud => ktr_room
      case uu => ktr_units
      intro v5 h5 tk5 new5 F5 N6 g5
      have N7 := News.sub N6 (fun p hp => List.mem_append_right _ hp)
      have g5' := got_in g5 (d := .none) .none
      clear N5 N6 g5
      k_steps
      unfold Paused
      refine' use_read ((A 1, W.listOf (V 1).toArray (C 1)) :: (A 2, instObj 182 (A 3)) :: (A 3, hDict w (K9 1) (A 1)) :: R2) (getd_spec _ w (A 2) (A 3) (A 1) (K9 1) t9 (V 1) (C 1) nm (logPairs es) R2 dL (by omega) hat.a1 k1 k2 k3 hql) (fun n' v (h : GotFirst _ _ _ n' v) => h.2) (by k_asm) (by k_asm) (by k_asm) (by assumption) (by k_asm) (by exact rfl) ?ud ?uu (fun p hp => tail_of (P := R2) 7 rfl p (hcl p hp)) ?_
      case ud => ktr_room
      case uu => ktr_units
      intro v6 h6 tk6 new6 F6 N8 g6
      have N9 := News.sub N8 (fun p hp => List.mem_append_right _ hp)
      have g6' := got_in g6 (d := .int 7) (.int _ _)
      clear N7 N8 g6
      k_steps
      unfold Paused
      rename_i lB _ lB1 lC _ FC NC lC1
      refine' add_any (n := ys2.length) FC NC (by k_mem) (List.Mem.head _) (by show ys2.length + 1 ≤ 400; omega) ?_
      intro lX hX FX NX lX1
      obtain ⟨u1, hu1, du1⟩ := first_news NX hM2 (d := .none) .none
      clear NC FC
      k_lt lX1
      k_steps
      unfold Paused
      rename_i lC2 _ FC2 NC2 lC3
      refine' add_any (n := ys2.length) FC2 NC2 (by k_mem) (List.Mem.head _) (by show ys2.length + 1 ≤ 400; omega) ?_
      intro lY hY FY NY lY1
      obtain ⟨u2, hu2, du2⟩ := first_news NY hM2 (d := .int 7) (.int _ _)
      clear NC2 FC2
      k_lt lY1
      k_steps
      unfold Paused
      rename_i lW _ FW NW lW1
      have hgs : ∀ x ∈ ((gotAll nm (logPairs es)).map (·.2)), PyData.strOk x = true := fun x hx => by
        obtain ⟨q, hq, rfl⟩ := List.mem_map.mp hx
        exact (pl.hso q (List.mem_filter.mp hq).1).2
      have nl : ∀ {led : Led}, ∀ p ∈ ([] : Led), p ∈ led := fun p hp => nomatch hp
      refine' ne_dat (b := true) (xs := [.ref lG, v5, v6]) (ys := [.ref D2, u1, u2]) (ds := [.list (((gotAll nm (logPairs es)).map (·.2)).map Dat.str), firstD ((gotAll nm (logPairs es)).map (·.2)) .none, firstD ((gotAll nm (logPairs es)).map (·.2)) (.int 7)]) ⟨fun _ => rfl, fun _ => rfl⟩ NW (by k_mem) (.cons (DatIn.list (n := nG) (by k_mem) (hG2.mono nl)) (.cons (g5'.mono nl) (.cons (g6'.mono nl) .nil))) (fun _ h => h) (List.Mem.head _)
        (.cons (DatIn.list (n := ys2.length) (by k_mem) (hM2.mono nl)) (.cons (du1.mono nl) (.cons (du2.mono nl) .nil))) (fun _ h => h) ?ok1 ?ok2 (by ke_room) ?_
      case ok1 => exact List.forall_mem_cons.mpr ⟨strs_ok hgs, List.forall_mem_cons.mpr ⟨first_ok hgs rfl, List.forall_mem_cons.mpr ⟨first_ok hgs rfl, List.forall_mem_nil _⟩⟩⟩
      case ok2 => exact List.forall_mem_cons.mpr ⟨strs_ok hgs, List.forall_mem_cons.mpr ⟨first_ok hgs rfl, List.forall_mem_cons.mpr ⟨first_ok hgs rfl, List.forall_mem_nil _⟩⟩⟩
      k_steps
      unfold Paused
      exact unr_end0 FW NW (by k_mem) (news' := (L + 1 + 1 + 1 + 1 + 1, oN8) :: (lF, _) :: R2) (List.forall_mem_cons.mpr ⟨by k_mem, List.forall_mem_cons.mpr ⟨by k_mem, tail_of 13 rfl⟩⟩) (List.forall_mem_cons.mpr ⟨Nat.ne_of_lt hI2, List.forall_mem_cons.mpr ⟨Nat.ne_of_lt hI3, fun p hp => Nat.ne_of_lt (hI p (.tail _ (.tail _ hp)))⟩⟩) ⟨⟨List.mem_cons_of_mem _ (List.Mem.head _), trivial⟩, hm2, oN8, ⟨_, dN8⟩, rfl⟩
theorem fin : epsP epsC := by with_unfolding_all exact fun T B X pl hat hE9 hnext => walk T B X pl hat hE9 hnext
end E_law_r2b
theorem law_r2b (w : World) (p : Program) (loose : List Str) (mean : ExcName → Option Value) (mg mb : Str → Option Value) (h₀ : Heap) (L fa : Addr) (cd : Value) (T : Top p loose mean mg mb h₀) (B : Below callerA h₀ [] h₀) (X : (K w.params).In h₀) (s : Shared) (es : List Ev) (pp : List Nat) (pl : Plain9 es pp) (A : Nat → Addr) (V : Nat → List Value) (C : Nat → Nat) (O : Nat → Obj) (K9 : Nat → Tok) (m : Str → Option Value) (P : Led) (hat : At w h₀ L es pp A V C O K9 m P s.heap) (Q : Flow → Shared → Prop) (E : Value → Shared → Prop) (hE9 : PassesOwn (model prog w) (callerA.deeper (lawE L fa cd)) (lawE L fa cd) E) (hnext : ∀ O m P h tk, At w h₀ L es pp A V C O K9 m P h → wpAny (model prog w) (callerA.deeper (lawE L fa cd)) (execs (fLaw.1.2.1.drop 6) (lawE L fa cd)) Q E { s with heap := h, toks := tk }) : wpAny (model prog w) (callerA.deeper (lawE L fa cd)) (execs (fLaw.1.2.1.drop 5) (lawE L fa cd)) Q E s := of_worst (P := E_law_r2b.epsP) (h := E_law_r2b.epsN) (by with_unfolding_all exact E_law_r2b.fin) (w, p, loose, mean, mg, mb, h₀, L, fa, cd, s, es, pp, A, V, C, O, K9, m, P, Q, E) T B X pl hat hE9 hnext
end
end
end
end
end
end
end
end
end
end
end
theorem sweepP29a {M : Model} {A : Around} {env : Env} {Q : Flow → Shared → Prop} {E : Value → Shared → Prop} {s : Shared} (h : wpAny M A (execs [] env) Q E s) : wpAny M A (execs [] env) Q E s := by w_top off; first | (walk1; fail "swept") | exact h
section
open PyProof.V PySem.Spec
local macro_rules | `(tactic| k_qdec) => `(tactic| first | exact nOk | exact iOk)
section
open PyProof.V PySem.Spec
local macro_rules | `(tactic| walk_at "execs cons") => `(tactic| k_extra "mv4")
local macro_rules | `(tactic| walk_at "execs cons") => `(tactic| k_extra "mv37")
section
open PyProof.V PySem.Spec
local macro_rules | `(tactic| walk_at "subscriptTail") => `(tactic| k_extra "mv34")
theorem sweepP29 {M : Model} {A : Around} {env : Env} {Q : Flow → Shared → Prop} {E : Value → Shared → Prop} {s : Shared} (h : wpAny M A (execs [] env) Q E s) : wpAny M A (execs [] env) Q E s := by w_top off; first | (walk1; fail "swept") | exact h
section
open PyProof.V PySem.Spec
theorem ints7 (t1 t2 t3 t4 t5 t6 t7 : Tok) : IntsAre [.int 40368 t1, .int 47356 t2, .int 49119 t3, .int 240554 t4, .int 36913 t5, .int 98256 t6, .int 139817 t7] fixed7 :=
  .cons _ _ (.cons _ _ (.cons _ _ (.cons _ _ (.cons _ _ (.cons _ _ (.cons _ _ .nil))))))
theorem law_holds : PySem.Challenge.rw_of0073_01.Holds := by
  refine hd ?_
  k_go0
  (all_goals try k_fold)
  rename_i w s0 s1 mg mb G Y fa o pm doc ho hg KX X V GL T B TE TW w14 w13 M w12 w11 hcd ns hs hlay0 hL1 hr1 hl2 w9 w8 lS vS w5 hL ra w1 r0 hI hr hcond2 hcond K0 hD h1 tk1 F0 oN oT oL oE oS dN dT dL dE dS N0 X0
  clear G Y ho hs hlay0 hL1 hr1 hl2 ra w1 r0 hr hcond hD
  have hvl := hI.length
  k_steps
  unfold Paused
  refine comp_eval (ct := none) (by with_unfolding_all rfl) (by rfl) (by decide) ?_
  k_steps
  unfold Paused
  refine' kmk_slice_lit (lo := none) (hi := some 4) ?sF ?sN ?sl ?sp ?sq ?se ?_ ?ss ?st ?sz
  case sF => k_asm
  case sN => k_asm
  case sl => exact hL.at fun o e => F0.keep _ o e
  case sp => exact IsPart.none
  case sq => exact IsPart.int _ _
  case se => exact pick_upto _ 4
  case ss => with_unfolding_all rfl
  case st => (intro _; with_unfolding_all rfl)
  case sz => rw [List.size_toArray, sizeLine_eq]; omega
  intro D1 h2 F2 N2 l2
  k_lt l2
  have h4 := fun (xs : List Value) => Nat.le_trans (List.length_take_le 4 xs) (show 4 ≤ 200 by decide)
  k_steps
  rename_i hIR FR NR upR
  refine comp_range (n := _) (names := [Str.ofString "k"]) (fix := [(D1, _), (_, oN), (_, oT), (_, oL), (_, oE), (_, oS)]) (add₀ := []) (J := fun i ys add => ∃ xs, IntsAre ys xs ∧ xs.length = i ∧ add = []) (B := fun i vals => ∃ t, vals = [Value.int (i : Int) t]) (by exact rfl) FR NR hIR (range_small (h4 _)) (range_size _) ?sz (by decide) (by rfl) (by decide) (by decide) ?hB1 ⟨[], .nil, rfl, rfl⟩ fin_eval (fun I => ?step1) ?fin1
  case sz => rw [sizeLine_eq]; exact Nat.le_trans (h4 _) (by decide)
  case hB1 => exact fun i t hi => ⟨[.int (i : Int) t], fun h => by rw [Int.zero_add]; exact .name, rfl, t, rfl⟩
  case step1 =>
    rintro i ys add vals oC C D m₂ h8 tk8 E8 hi ⟨xs, hxs, hxl, rfl⟩ hs ⟨t8, rfl⟩ hC hx F8
    refine AllObj.cons (fun o8 c8 => AllObj.nil (fun N8 off8 => ?_))
    simp only [List.zip_cons_cons, List.zip_nil_right, List.forall_mem_cons] at hx
    obtain ⟨hx8, _⟩ := hx
    dsimp only [List.cons_append, List.nil_append] at N8 hx8
    show wpAny _ _ (eval _ _) (CEnd _ _ _ _ _ _ _ _) _ _
    clear NR FR upR hIR
    k_steps
    unfold Paused
    refine' kmk_slice3_lit (lo := some _) (hi := none) (st := some 4) ?sF2 ?sN2 ?sl2 ?sp2 ?sq2 ?sk2 ?so2 rfl ?_ ?ss2 ?st2 ?sz2
    case sF2 => k_asm
    case sN2 => k_asm
    case sl2 => exact hL.at fun o e => F8.keep _ o e
    case sp2 => exact IsPart.int _ _
    case sq2 => exact IsPart.none
    case sk2 => exact IsPart.int _ _
    case so2 => decide
    case ss2 => with_unfolding_all rfl
    case st2 => (intro _; with_unfolding_all rfl)
    case sz2 => rw [List.size_toArray, sizeLine_eq]; omega
    intro D6 h6 F6 N6 l6
    have hI6 := hI.pick (some (i : Int)) none (some 4)
    k_steps
    unfold Paused
    refine' sumK (by with_unfolding_all rfl) (by assumption) N6 (PySem.IsL.isList (N6 _ (List.Mem.head _)).1) hI6 ?_
    intro h7 tk7 t7 F7 N7
    dsimp only
    k_steps
    refine' CEnd.mk (by assumption) N7 [] ?sub1 (List.forall_mem_nil _) ⟨xs ++ [_], IntsAre.append hxs (.cons _ _ .nil), ?len1, rfl⟩
    case sub1 => (repeat' (first | (refine List.forall_mem_cons.mpr ⟨by k_mem, ?_⟩) | exact List.forall_mem_nil _ | (intro p9 hp9; (repeat (first | exact hp9 | refine List.mem_cons_of_mem _ ?_)))))
    case len1 => rw [List.length_append, hxl]; rfl
  case fin1 =>
    rintro D2 h9 tk9 ys add ⟨xs, hxs, hxl, rfl⟩ hs9 F9 N9 off9 lt9
    dsimp only [List.cons_append, List.nil_append] at N9 lt9
    k_lt lt9
    clear NR FR upR hIR
    k_steps
    unfold Paused
    have hyl : ys.length = xs.length := hxs.length
    have hxl4 : xs.length ≤ 4 := hxl ▸ List.length_take_le 4 _
    refine' add_any ?aF ?aN (n := ys.length) ?a1 ?a2 ?al ?_
    case aF => k_asm
    case aN => k_asm
    case a1 => k_mem
    case a2 => k_mem
    case al => simp only [List.length_cons, List.length_nil]; omega
    intro D3 h3 F3 N3 l3
    k_lt l3
    have hX := fun t1 t2 t3 t4 t5 t6 t7 => IntsAre.append hxs (ints7 t1 t2 t3 t4 t5 t6 t7)
    k_steps
    unfold Paused
    refine' use_read [(D3, W.listOf (List.toArray _) 0)] (events_spec _ D3 _ 0 (xs ++ fixed7) (hX _ _ _ _ _ _ _) (by rw [List.length_append]; show xs.length + 7 ≤ 20; omega)) ?uP ?uB (by assumption) ?uX (by assumption) ?uT ?uk ?ud ?uu ?um ?_
    case um => exact List.forall_mem_cons.mpr ⟨by k_mem, List.forall_mem_nil _⟩
    case uB => k_asm
    case uX => k_asm
    case uT => k_asm
    case uk => first | assumption | exact rfl
    case ud => ktr_room
    case uu => ktr_units
    case uP =>
      rintro n' v ⟨_, _, _, _, _, hs⟩ p hp
      exact hs p (List.mem_cons_of_mem _ hp)
    clear hX l3 hxs
    intro v4 h4' tk4 new4 F4 N4 ⟨lE, vE, nE, hv4, hE, hsE⟩
    subst hv4
    dsimp only
    have hE1 := DatAll.seq hE
    have hq := seqs_filter new4
    have hsub : ∀ p ∈ new4.filter isSeq, p ∈ new4 := fun p hp => (List.mem_filter.mp hp).1
    have N5 := News.sub N4 (news' := (s1.heap.objs.size + 1 + 1 + 1 + 1 + 1, oN) :: (s1.heap.objs.size + 1 + 1 + 1 + 1, oT) :: (s1.heap.objs.size + 1 + 1 + 1, oL) :: (s1.heap.objs.size + 1 + 1, oE) :: (s1.heap.objs.size + 1, oS) :: (lE, W.listOf (List.toArray vE) nE) :: new4.filter isSeq) ?n5
    case n5 =>
      exact List.forall_mem_cons.mpr ⟨List.mem_append_right _ (by k_mem), List.forall_mem_cons.mpr ⟨List.mem_append_right _ (by k_mem), List.forall_mem_cons.mpr ⟨List.mem_append_right _ (by k_mem), List.forall_mem_cons.mpr ⟨List.mem_append_right _ (by k_mem), List.forall_mem_cons.mpr ⟨List.mem_append_right _ (by k_mem), List.forall_mem_cons.mpr ⟨List.mem_append_left _ (hsE _ (List.Mem.head _)), fun p hp => List.mem_append_left _ (hsub p hp)⟩⟩⟩⟩⟩⟩
    generalize new4.filter isSeq = P at hE1 hq N5
    clear N4 hsE hsub hE
    have c1 := NoCell.off (NoCell.cons (o := W.listOf (List.toArray vE) nE) hq.noCell (fun _ => nofun)) N5 (c := _) (oc := oE) (by intro p hp; (repeat (first | exact hp | refine List.mem_cons_of_mem _ ?_))) (by k_mem) (by assumption)
    k_steps
    unfold Paused
    rename_i h9' oE9 F9 N9' d9
    obtain ⟨pp, hpl⟩ := plain_ok xs hxl4
    clear c1 hq l2 hs9 off9 lt9 hyl
    refine' law_r1 w _ _ _ mg mb s1.heap s1.heap.objs.size fa (.ref w12) T K0 KX _ _ oN oT oL oE9 oS lE vE nE P _ pp F9 N9' dN dT dL d9 hE1 hpl _ _ ?_
    clear F9 N9' d9 dN dT dL dE dS hE1
    intro A V C O K9 m P h tk hat
    refine' law_r2a w _ _ _ mg mb s1.heap s1.heap.objs.size fa (.ref w12) T K0 KX _ _ pp hpl A V C O K9 m P hat _ _ ?_
    clear hat
    intro P h tk hat
    refine' law_r2b w _ _ _ mg mb s1.heap s1.heap.objs.size fa (.ref w12) T K0 KX _ _ pp hpl A V C O K9 m P hat _ _ (by passes_own) ?_
    clear hat
    intro O m P h tk hat
    refine' law_r2c w _ _ _ mg mb s1.heap s1.heap.objs.size fa (.ref w12) T K0 KX _ _ pp hpl A V C O K9 m P hat _ _ ?_
    clear hat
    intro P h tk hat
    refine' law_r2d w _ _ _ mg mb s1.heap s1.heap.objs.size fa (.ref w12) T K0 KX _ _ pp hpl A V C O K9 m P hat _ _ ?_
    clear hat
    intro P h tk hat
    refine' law_r2e w _ _ _ mg mb s1.heap s1.heap.objs.size fa (.ref w12) T K0 KX _ _ pp hpl A V C O K9 m P hat _ _ ?_
    clear hat
    intro h tk mm F
    unfold qk
    dsimp only
    refine goodW_bool F hg (raisesW_false ?hn) ?hp
    case hn => wrow_none_raised
    case hp => wrow_post
end
end
end
end
end
end
end
end
end
end
end
end
end
end
end
end
end
end
end
end Mine
theorem PySem.Challenge.cw_of0073_01_holds : PySem.Challenge.rw_of0073_01.Holds :=
  Mine.law_holds
