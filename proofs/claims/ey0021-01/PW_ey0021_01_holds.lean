import PyProof.Rows.All
import Wide.All
import OpenK.AllK
import Wide.FinOn
import Lean
import PySem.Challenge.RW_ey0021_01
set_option Elab.async false
set_option maxRecDepth 100000
set_option maxHeartbeats 0
set_option linter.unusedVariables false
set_option linter.unusedSimpArgs false
namespace Mine
section
open PySem PySem.W PyProof.Rows
open_top hd for PySem.Challenge.rw_ey0021_01
end
end Mine
section
open PySem PySem.W PySem.Calls PyProof.Rows
namespace Mine
noncomputable abbrev LP := looseW hd.view_39 [Str.ofString "_tuplegetter", Str.ofString "CellTable", Str.ofString "load",
      Str.ofString "_SINGLE_CELL_UNICODE_RANGES", Str.ofString "get_character_cell_size",
      Str.ofString "cached_cell_len", Str.ofString "cell_len", Str.ofString "split_graphemes",
      Str.ofString "chop_cells", Str.ofString "re_word", Str.ofString "divide_line"]
abbrev AA (dp : Nat) (fr : Option (List Env)) (gd : Option (List Code)) (un : Nat) : Around := { handled := none, depth := dp, frames := fr, guards := gd, units := un }
abbrev Keep (h h' : Heap) : Prop := ∀ b o, h.get? b = some o → h'.get? b = some o
/-- what may become of the generators' states -/
structure GX (g g' : Array GenState) : Prop where
  old : ∀ (i : Nat) (x : GenState), g[i]? = some x → g'[i]? = some x
  bare : AllBare g → AllBare g'
theorem GX.refl (g : Array GenState) : GX g g := ⟨fun _ _ e => e, id⟩
theorem GX.trans {a b c : Array GenState} (x : GX a b) (y : GX b c) : GX a c := ⟨fun i v e => y.old i v (x.old i v e), fun h => y.bare (x.bare h)⟩
theorem Keep.refl (h : Heap) : Keep h h := fun _ _ e => e
theorem Keep.trans {a b c : Heap} (x : Keep a b) (y : Keep b c) : Keep a c := fun p o e => y p o (x p o e)
/-- a call that changes nothing that stood -/
abbrev PS (w : World) (mg mb : Str → Option Value) (nd : Nat) (f : Addr) (args : List Value) (kw : List (Str × Value)) (pre : Heap → Prop) (R : Heap → Value → Prop) : Prop :=
  ∀ (dp : Nat) (fr : Option (List Env)) (gd : Option (List Code)) (un : Nat) (s : Shared) (Q E : Value → Shared → Prop),
    (hd.heap_39 w.params).In s.heap → TopRead hd.view_39 LP mg mb s.heap → dp + nd < 900 → un + 20 * nd < 9000 → pre s.heap →
    (∀ v h' tk', Keep s.heap h' → R h' v → Q v { heap := h', gens := s.gens, drawn := s.drawn, toks := tk', os := s.os }) →
    wpAny (model PySem.Challenge.rw_ey0021_01.row.prog w) (AA dp fr gd un) (call (.ref f) args kw) Q E s
section
variable {w : World} {A : Around} {s : Shared} {R : Result → Shared → Prop} {name qual : Str} {params : Arguments} {body : List Stmt} {scope : Scope} {dV kV doc pm cdv ct oc : Value} {an od : Option Addr} {osl : Array (Option Value)} {f : Addr} {args : Args} {binds : List (Str × Value)}
theorem pEnter (adr : List Addr) (X : (hd.heap_39 w.params).In s.heap) (hlim : s.heap.NoLimit) (ho : (hd.heap_39 w.params).lookup f = some ⟨oc, od, .func (fnOf name qual params body scope dV kV doc pm an cdv ct), osl⟩) (hcd : codeIn (hd.heap_39 w.params) cdv qual = true) (hroom : A.depth < recursionLimit)
    (hbind : BindsTo s (fnOf name qual params body scope dV kV doc pm an cdv ct) args binds) (hloc : ∀ y ∈ binds, scope.names.lookup y.1 = some .local)
    (h : ∀ h₁ L, s.heap.objs.size ≤ L → Fr (hideAll s.heap adr) L h₁ (fun y => binds.reverse.lookup y) → Keep s.heap h₁ →
      wpAny (model PySem.Challenge.rw_ey0021_01.row.prog w) (A.deeper (envOf qual scope L f cdv)) (execs body (envOf qual scope L f cdv))
        (fun fl s' => R (.ok (.ret (match fl with | .ret v => v | _ => .none))) s')
        (fun e s' => wpAny (model PySem.Challenge.rw_ey0021_01.row.prog w) (A.deeper (envOf qual scope L f cdv)) (leaving (envOf qual scope L f cdv) e) (fun _ s'' => R (.error e) s'') (fun e' s'' => R (.error e') s'') s')
        { s with heap := h₁, toks := s.toks + binds.length })
    (hco : scope.isCoroutine = false) (hgen : scope.isGenerator = false) (hk : scope.kind = .function)
    (hcell : ∀ x ∈ scope.names, x.2 ≠ .cell) : codeAny (model PySem.Challenge.rw_ey0021_01.row.prog w) A (.call (.ref f) args) R s := by
  refine codeAny_call_def (fd := fnOf name qual params body scope dV kV doc pm an cdv ct) (body := body) (binds := binds) hroom (X _ _ ho) rfl hlim (codeRec_of X hcd) rfl hbind hcell hloc (fun h₁ hns hk₁ => ?_) hco hgen hk
  exact h h₁ s.heap.objs.size (Nat.le_refl _) ⟨hns, fun b o e => hk₁ b o (of_hideAll _ e), Nat.le_of_eq (hideAll_size _ _)⟩ hk₁
theorem pEnterC (adr : List Addr) (X : (hd.heap_39 w.params).In s.heap) (hlim : s.heap.NoLimit) (ho : (hd.heap_39 w.params).lookup f = some ⟨oc, od, .func (fnOf name qual params body scope dV kV doc pm an cdv ct), osl⟩) (hcd : codeIn (hd.heap_39 w.params) cdv qual = true) (hroom : A.depth < recursionLimit)
    (hbind : BindsTo s (fnOf name qual params body scope dV kV doc pm an cdv ct) args binds) (hkind : (binds.all fun y => scope.names.lookup y.1 == some .local || scope.names.lookup y.1 == some .cell) = true)
    (hnd : ((cellsFrom 0 scope.names []).map (·.1)).Nodup)
    (h : ∀ h₁ L tk cells, s.heap.objs.size ≤ L → Fr (hideAll s.heap adr) L h₁ (bindL (envOfC qual scope L f cdv).kindOf binds fun _ => none) → News (hideAll s.heap adr) L h₁ cells →
      CellsAre (bindC (envOfC qual scope L f cdv).kindOf binds fun _ => none) (cellsFrom (L + 1) scope.names []) cells → Keep s.heap h₁ → (∀ p ∈ cells, s.heap.get? p.1 = none) →
      wpAny (model PySem.Challenge.rw_ey0021_01.row.prog w) (A.deeper (envOfC qual scope L f cdv)) (execs body (envOfC qual scope L f cdv))
        (fun fl s' => R (.ok (.ret (match fl with | .ret v => v | _ => .none))) s')
        (fun e s' => wpAny (model PySem.Challenge.rw_ey0021_01.row.prog w) (A.deeper (envOfC qual scope L f cdv)) (leaving (envOfC qual scope L f cdv) e) (fun _ s'' => R (.error e) s'') (fun e' s'' => R (.error e') s'') s')
        { s with heap := h₁, toks := tk })
    (hco : scope.isCoroutine = false) (hgen : scope.isGenerator = false) (hk : scope.kind = .function) : codeAny (model PySem.Challenge.rw_ey0021_01.row.prog w) A (.call (.ref f) args) R s := by
  refine codeAny_call_function hroom (X _ _ ho) rfl hco hgen rfl (codeRec_of X hcd) (hbind _ _ _ _ ?_)
  refine wpAny_newFunctionEnv_cells hk (kindsX hkind _) fun env' he s' x => ?_
  subst he
  refine ⟨hlim.keeps x.toInCall.keep, codeAny_func ?_⟩
  obtain ⟨h₁, tk, rfl, _⟩ := x.done
  have hk₁ := x.toInCall.keep
  obtain ⟨cells, NC, Y⟩ := Cl.news (h₀ := s.heap) (Nat.le_refl _) fun n c hm => ⟨x.cell n c (lookup_of_mem_nodup (cellsFrom_names scope.names 0 (s.heap.objs.size + 1) [] [] rfl ▸ hnd) hm), x.above n c hm⟩
  refine h h₁ s.heap.objs.size tk cells (Nat.le_refl _) ⟨x.toInCall.ns, fun b o e => hk₁ b o (of_hideAll _ e), Nat.le_of_eq (hideAll_size _ _)⟩ (fun p hp => ⟨(NC p hp).1, (NC p hp).2.1, ?_⟩) Y hk₁ (fun p hp => (NC p hp).2.2)
  cases q : (hideAll s.heap adr).get? p.1 with
  | none => rfl
  | some o => have := of_hideAll _ q; rw [(NC p hp).2.2] at this; cases this
end
theorem newsNil {h₀ h : Heap} {L : Addr} {m : Str → Option Value} (_ : Fr h₀ L h m) : News h₀ L h [] := fun _ hp => nomatch hp
theorem hideNil (h : Heap) : hideAll h [] = h := rfl
end Mine
end
section
open PySem PySem.W PySem.W.X PyProof.Rows
namespace Mine
def wd (c : Nat) : Int := if c = 20013 then 2 else 1
def okc (c : Nat) : Prop := (32 ≤ c ∧ c ≤ 126) ∨ c = 20013
def okx (x : Str) : Prop := ∀ c ∈ x.cps.toList, okc c
def sizeL (l : List Nat) : Int := (l.map wd).sum
def narrow (x : Str) : Bool := x.cps.toList.all (· != 20013)
abbrev Ax : Around := { handled := none, depth := 980, frames := none, guards := none, units := 9880 }
theorem wk {M : Model} {α : Type} {A : Around} {t : Sem α} {Q : α → Shared → Prop} {E : Value → Shared → Prop} {s : Shared} (hh : A.handled = none) (hd : A.depth ≤ 980) (hu : A.units ≤ 9880) (h : wpAny M Ax t Q E s) : wpAny M A t Q E s :=
  fun Γ p hΓ => h Γ p ⟨hΓ.1.trans hh, Nat.le_trans hΓ.2.1 hd, (fun l e => by cases e), (fun l e => by cases e), Nat.le_trans hΓ.2.2.2.2 hu⟩
theorem memKeep {h₀ h : Heap} {news : List (Addr × Obj)} (D : Mem h₀ h [] news) : Keep h₀ h := fun b o e => D.keep b o e (by simp [away])
theorem memTop {h₀ h : Heap} {a : Addr} {o : Obj} {chg news : List (Addr × Obj)} (D : Mem h₀ h chg ((a, o) :: news)) : h.get? a = some o := (D.nw _ (.head _)).1
structure RM (P : Prop) : Prop where
  out : P
/-- a CellTable -/
def ctObj (t : Tok) (dx : Addr) : Obj := { cls := .ref 159, dict := some dx, data := .seq #[.str (Str.ofString "narrow") t, .ref 178, .ref 179] }
def emptyD : Obj := { cls := .type "dict", data := .dict #[] }
theorem mem3 {h₀ h : Heap} {a b : Addr} {o o2 : Obj} {chg news : List (Addr × Obj)} (D : Mem h₀ h chg ((a, o) :: (b, o2) :: news)) : h.get? b = some o2 := (D.nw _ (.tail _ (.head _))).1
local macro_rules | `(tactic| x_close) => `(tactic| ((rename RM _ => rm'); refine rm'.out _ _ _ _ (memKeep (by assumption)) (memTop (by assumption)) (mem3 (by assumption))))
theorem tuple_new {w : World} {s : Shared} {Q E : Value → Shared → Prop} {t : Tok} {D : Addr} (K : (hd.heap_39 w.params).In s.heap)
   (hD : s.heap.get? D = some { cls := .type "tuple", data := .seq #[.str (Str.ofString "narrow") t, .ref 178, .ref 179] })
   (hret : ∀ a dx h' tk, Keep s.heap h' → h'.get? a = some (ctObj t dx) → h'.get? dx = some emptyD → Q (.ref a) { s with heap := h', toks := tk }) :
   wpAny (model PySem.Challenge.rw_ey0021_01.row.prog w) Ax (call (.builtin "tuple.__new__") [.ref 159, .ref D]) Q E s := by
  revert K; k_fill; intro K
  obtain ⟨h, g, d, tk, os⟩ := s
  have rm : RM _ := ⟨hret⟩
  clear hret
  x_run
local macro_rules | `(tactic| x_close) => `(tactic| ((rename RM _ => rm'); refine rm'.out _ _ (by first | exact memKeep (by assumption) | exact Keep.refl _)))
theorem obj_init {w : World} {s : Shared} {Q E : Value → Shared → Prop} {t : Tok} {a dx : Addr} (K : (hd.heap_39 w.params).In s.heap)
   (h1 : s.heap.get? a = some (ctObj t dx)) (h2 : s.heap.get? dx = some emptyD)
   (hret : ∀ h' tk, Keep s.heap h' → Q .none { s with heap := h', toks := tk }) :
   wpAny (model PySem.Challenge.rw_ey0021_01.row.prog w) Ax (call (.builtin "object.__init__") [.ref a, .str (Str.ofString "narrow") t, .ref 178, .ref 179]) Q E s := by
  revert K; k_fill; intro K
  obtain ⟨h, g, d, tk, os⟩ := s
  have rm : RM _ := ⟨hret⟩
  clear hret
  unfold ctObj at h1
  unfold emptyD at h2
  x_run
end Mine
end
section
open PySem PySem.W PySem.Calls PyProof.Rows
namespace Mine
local macro_rules | `(tactic| k_room) => `(tactic| ((try simp only [depth_under_make, depth_under_kw, depth_in1, depth_deeper, depth_caller]); (simp only [recursionLimit] at *); omega))
local macro_rules | `(tactic| cell_enter) => `(tactic| first
  | (refine' pEnter [] ?k1 ?k2 ?k6 ?k7 ?k8 ?k9 ?kB ?_ ?c2 ?c3 ?c4 ?c5; (case k1 => k_asm); (case k2 => exact TopRead.nolimit (by assumption)); (case k6 => k_is); (case k7 => k_is); (case k8 => k_room); (case k9 => first | exact BindsTo.of_eq rfl | exact binds_K (by k_in) rfl (by k_is) rfl rfl rfl | fail "no rule for these arguments"); (case c5 => decide); (case kB => exact locs rfl); (case c2 => exact rfl); (case c3 => exact rfl); (case c4 => exact rfl); k_whole; intro h₁ L₁ hL₁ F₁ K₁; (rw [hideNil] at F₁); (have N₁ := newsNil F₁); (try dsimp only); (try k_fold))
  | (refine' pEnterC [] ?k1 ?k2 ?k6 ?k7 ?k8 ?k9 ?kB ?kD ?_ ?c2 ?c3 ?c4; (case k1 => k_asm); (case k2 => exact TopRead.nolimit (by assumption)); (case k6 => k_is); (case k7 => k_is); (case k8 => k_room); (case k9 => first | exact BindsTo.of_eq rfl | exact binds_K (by k_in) rfl (by k_is) rfl rfl rfl | fail "no rule for these arguments"); (case kB => exact rfl); (case kD => decide +kernel); (case c2 => exact rfl); (case c3 => exact rfl); (case c4 => exact rfl); k_whole; intro h₁ L₁ tk₁ cells₁ hL₁ F₁ N₁ Y₁ K₁ C₁; (rw [hideNil] at F₁ N₁); k_cells Y₁; (try simp only [List.cons_append, List.nil_append] at N₁); (try dsimp only); (try k_fold)))

theorem meta_tuple : typeOf (.type "tuple") = pure (.type "type") := by kernel_rfl
local macro_rules | `(tactic| walk_at "getMethod type:tuple") => `(tactic| (k_here; refine' method_type ?F ?X ?m (by decide +kernel) ?e ?h ?_; (case F => k_asm); (case X => k_asm); (case m => exact meta_tuple); (case e => k_dflt k_is); (case h => k_handed)))
theorem c_new (w : World) (mg mb) (t : Tok) : PS w mg mb 2 106 [.ref 159, .str (Str.ofString "narrow") t, .ref 178, .ref 179] [] (fun _ => True) (fun h v => ∃ a dx, v = .ref a ∧ h.get? a = some (ctObj t dx) ∧ h.get? dx = some emptyD) := by
  unfold PS
  k_fill
  intro dp fr gd un s Q E hK hT hdp hun hpre hret
  refine wpAny_call ?_
  k_dflt cell_enter
  k_steps
  rename News _ _ _ _ => N9
  rename Fr _ _ _ _ => F9
  refine wk rfl (by simp only [depth_deeper]; omega) (by simp only [units_deeper]; omega) (tuple_new (hK.keeps F9.keep) (N9 _ (.head _)).1 fun a dx h' tk k1 e1 e2 => ?_)
  exact hret _ _ _ (Keep.trans F9.keep k1) ⟨_, _, rfl, e1, e2⟩
theorem mk_table {w : World} {mg mb} {dp : Nat} {fr : Option (List Env)} {gd : Option (List Code)} {un : Nat} {s : Shared} {Q E : Value → Shared → Prop} {t : Tok} (X : (hd.heap_39 w.params).In s.heap) (T : TopRead hd.view_39 LP mg mb s.heap) (hdp : dp + 4 < 900) (hun : un + 80 < 9000) 
   (hret : ∀ a dx h' tk', Keep s.heap h' → h'.get? a = some (ctObj t dx) → h'.get? dx = some emptyD → Q (.ref a) { heap := h', gens := s.gens, drawn := s.drawn, toks := tk', os := s.os }) :
   wpAny (model PySem.Challenge.rw_ey0021_01.row.prog w) (AA dp fr gd un) (call (.ref 159) [.str (Str.ofString "narrow") t, .ref 178, .ref 179]) Q E s := by
  revert X; k_fill; intro X
  obtain ⟨h, g, d, tk, os⟩ := s
  refine wpAny_call ?_
  refine codeAny_of_tree ?_
  show wpAny _ _ (callAny (.ref 159) _) _ _ _
  refine nd_load (X _ _ (by k_dflt k_is)) ?_
  show wpAny _ _ (callAny.viaDunder (.ref 159) _) _ _ _
  unfold callAny.viaDunder
  have hcall : Looks (model PySem.Challenge.rw_ey0021_01.row.prog w) h (specialOf (.ref 159) "__call__") (some (.builtin "type.__call__")) := looks_specialIn X (by k_dflt k_is)
  have typ : Looks (model PySem.Challenge.rw_ey0021_01.row.prog w) h (isInstance (.ref 159) (.type "type")) true := looks_instIn X (by k_dflt k_is)
  have made : Looks (model PySem.Challenge.rw_ey0021_01.row.prog w) h (Bind.madeBy (.ref 159)) none := Looks.of_peek X (by kernel_rfl)
  have mro : Looks (model PySem.Challenge.rw_ey0021_01.row.prog w) h (mroOf (.ref 159)) [.ref 159, .type "tuple", .type "object"] := Looks.of_peek X (by kernel_rfl)
  refine wpAny_bind (hcall.at ?_)
  dsimp only
  rw [tc_bind]
  refine wpAny_bind (wpAny_pure (wpAny_bind (wpAny_pure ?_)))
  refine wpAny_pure (a := Fin.again (.call (.builtin "type.__call__") ⟨.ref 159 :: _, []⟩)) (And.intro rfl ?_)
  refine codeAny_call_builtin_at (Code.quiet_builtin _ (by decide +kernel)) entry_typeCall (check_slot tc_kind tc_split typ (tc_args _ _ _) ?_)
  unfold Builtin.«type.__call__»
  repeat ((fail_if_success (with_reducible show wpAny _ _ (getAttr _ _ _) _ _ _)); (first | simp only [List.isEmpty_cons, Bool.false_eq_true, if_false] | lk))
  refine cls_bind (mc := .type "type") X (by k_dflt k_is) (by k_dflt k_is) (wpAny_call (sm_get (s := ⟨_, _, _, _, _⟩) X (by k_dflt k_is) (handed_on (by first | rfl | decide) ?_)))
  repeat ((fail_if_success (with_reducible show wpAny _ _ (PySem.call _ _ _) _ _ _)); lk)
  refine c_new w mg mb t _ _ _ _ _ _ _ X T ?_ ?_ trivial ?_
  · have hw : ∀ l, (Code.builtin "type.__call__" ⟨.ref 159 :: l, []⟩).weight = 1 := fun _ => rfl
    show dp + (Code.weight _) + 2 < 900
    rw [hw]; omega
  · show un + (Code.cUnits _) + 20 * 2 < 9000
    have hw : ∀ l, (Code.builtin "type.__call__" ⟨.ref 159 :: l, []⟩).cUnits = 1 := fun _ => rfl
    rw [hw]; omega
  rintro v h' tk' k1 ⟨a, dx, rfl, e1, e2⟩
  have X' := X.keeps k1
  have t1 : Looks (model PySem.Challenge.rw_ey0021_01.row.prog w) h' (typeOf (.ref a)) (.ref 159) := (Looks.ld e1).andThen .now
  have s1 : Looks (model PySem.Challenge.rw_ey0021_01.row.prog w) h' (isSubtype (.ref 159) (.ref 159)) true := looks_subIn X' (by k_dflt k_is)
  have i1 : Looks (model PySem.Challenge.rw_ey0021_01.row.prog w) h' (typeLookup (.ref 159) "__init__") (some (.builtin "object.__init__")) := looks_findIn X' (by k_dflt k_is)
  have b1 : Looks (model PySem.Challenge.rw_ey0021_01.row.prog w) h' (bindSpecial (.builtin "object.__init__") (.ref a)) (.builtin "object.__init__", [.ref a]) := Looks.of_pure (oi_bind (.ref a))
  unfold isInstance callSpecial? specialOf
  repeat ((fail_if_success (with_reducible show wpAny _ _ (PySem.call _ _ _) _ _ _)); first | simp only [Bool.not_true, Bool.false_eq_true, if_false] | lk)
  refine wk rfl (by show dp + (Code.weight _) ≤ 980; rw [show ∀ l, (Code.builtin "type.__call__" ⟨.ref 159 :: l, []⟩).weight = 1 from fun _ => rfl]; omega) ?_ (obj_init X' e1 e2 fun h'' tk'' k2 => ?_)
  · show un + (Code.cUnits _) ≤ 9880
    have hw : ∀ l, (Code.builtin "type.__call__" ⟨.ref 159 :: l, []⟩).cUnits = 1 := fun _ => rfl
    rw [hw]; omega
  repeat lk
  exact hret _ _ _ _ (Keep.trans k1 k2) (k2 _ _ e1) (k2 _ _ e2)

end Mine
end
section
open PySem PySem.W PySem.W.X PySem.Calls PyProof.Rows
namespace Mine
local macro_rules | `(tactic| walk_at "pad") => `(tactic| fail)
local macro_rules | `(tactic| k_room) => `(tactic| ((try simp only [depth_under_make, depth_under_kw, depth_in1, depth_deeper, depth_caller]); (simp only [recursionLimit] at *); omega))
local macro_rules | `(tactic| cell_enter) => `(tactic| first
  | (refine' pEnter [] ?k1 ?k2 ?k6 ?k7 ?k8 ?k9 ?kB ?_ ?c2 ?c3 ?c4 ?c5; (case k1 => k_asm); (case k2 => exact TopRead.nolimit (by assumption)); (case k6 => k_is); (case k7 => k_is); (case k8 => k_room); (case k9 => first | exact BindsTo.of_eq rfl | exact binds_K (by k_in) rfl (by k_is) rfl rfl rfl | fail "no rule for these arguments"); (case c5 => decide); (case kB => exact locs rfl); (case c2 => exact rfl); (case c3 => exact rfl); (case c4 => exact rfl); k_whole; intro h₁ L₁ hL₁ F₁ K₁; (rw [hideNil] at F₁); (have N₁ := newsNil F₁); (try dsimp only); (try k_fold))
  | (refine' pEnterC [] ?k1 ?k2 ?k6 ?k7 ?k8 ?k9 ?kB ?kD ?_ ?c2 ?c3 ?c4; (case k1 => k_asm); (case k2 => exact TopRead.nolimit (by assumption)); (case k6 => k_is); (case k7 => k_is); (case k8 => k_room); (case k9 => first | exact BindsTo.of_eq rfl | exact binds_K (by k_in) rfl (by k_is) rfl rfl rfl | fail "no rule for these arguments"); (case kB => exact rfl); (case kD => decide +kernel); (case c2 => exact rfl); (case c3 => exact rfl); (case c4 => exact rfl); k_whole; intro h₁ L₁ tk₁ cells₁ hL₁ F₁ N₁ Y₁ K₁ C₁; (rw [hideNil] at F₁ N₁); k_cells Y₁; (try simp only [List.cons_append, List.nil_append] at N₁); (try dsimp only); (try k_fold)))

local macro_rules | `(tactic| walk_at "call ref") => `(tactic| (k_here; (with_reducible show wpAny _ _ (call (Value.ref 159) [Value.str _ _, Value.ref 178, Value.ref 179]) _ _ _); (rename Fr _ _ _ _ => F9); (rename News _ _ _ _ => N9); (rename TopRead _ _ _ _ _ => T9); (refine' mk_table (Frag.In.keeps ?X (Fr.keep F9)) (TopRead.keeps T9 (Fr.keep F9)) ?d ?u ?_; (case X => assumption); (case d => (try simp only [depth_deeper]); omega); (case u => (try simp only [units_deeper]); omega)); (intro a9 dx9 h9 tk9 K9 e9 e9'); (have F9' := Fr.keeps F9 K9); (have N9' := News.grown N9 K9); clear F9 N9; (try dsimp only)))
theorem c_load (w : World) (mg mb) (u : Tok) : PS w mg mb 6 187 [.str (Str.ofString "auto") u] [] (fun _ => True) (fun h v => ∃ a dx t, v = .ref a ∧ h.get? a = some (ctObj t dx) ∧ h.get? dx = some emptyD) := by
  unfold PS
  k_fill
  intro dp fr gd un s Q E hK hT hdp hun hpre hret
  refine wpAny_call ?_
  k_dflt cell_enter
  k_steps
  rename Fr _ _ _ _ => F9
  exact hret _ _ _ F9.keep ⟨_, _, _, rfl, by assumption, by assumption⟩

end Mine
end
section
open PySem PySem.W PySem.W.X PySem.Calls PyProof.Rows
namespace Mine
local macro_rules | `(tactic| k_room) => `(tactic| ((try simp only [depth_under_make, depth_under_kw, depth_in1, depth_deeper, depth_caller]); (simp only [recursionLimit] at *); omega))
local macro_rules | `(tactic| cell_enter) => `(tactic| first
  | (refine' pEnter [] ?k1 ?k2 ?k6 ?k7 ?k8 ?k9 ?kB ?_ ?c2 ?c3 ?c4 ?c5; (case k1 => k_asm); (case k2 => exact TopRead.nolimit (by assumption)); (case k6 => k_is); (case k7 => k_is); (case k8 => k_room); (case k9 => first | exact BindsTo.of_eq rfl | exact binds_K (by k_in) rfl (by k_is) rfl rfl rfl | fail "no rule for these arguments"); (case c5 => decide); (case kB => exact locs rfl); (case c2 => exact rfl); (case c3 => exact rfl); (case c4 => exact rfl); k_whole; intro h₁ L₁ hL₁ F₁ K₁; (rw [hideNil] at F₁); (have N₁ := newsNil F₁); (try dsimp only); (try k_fold))
  | (refine' pEnterC [] ?k1 ?k2 ?k6 ?k7 ?k8 ?k9 ?kB ?kD ?_ ?c2 ?c3 ?c4; (case k1 => k_asm); (case k2 => exact TopRead.nolimit (by assumption)); (case k6 => k_is); (case k7 => k_is); (case k8 => k_room); (case k9 => first | exact BindsTo.of_eq rfl | exact binds_K (by k_in) rfl (by k_is) rfl rfl rfl | fail "no rule for these arguments"); (case kB => exact rfl); (case kD => decide +kernel); (case c2 => exact rfl); (case c3 => exact rfl); (case c4 => exact rfl); k_whole; intro h₁ L₁ tk₁ cells₁ hL₁ F₁ N₁ Y₁ K₁ C₁; (rw [hideNil] at F₁ N₁); k_cells Y₁; (try simp only [List.cons_append, List.nil_append] at N₁); (try dsimp only); (try k_fold)))


local macro_rules | `(tactic| x_close) => `(tactic| (fail "no"))
theorem InstAt.keeps {h h' : Heap} {x C : Addr} {ox : Obj} {od : Option Obj} (I : InstAt h x ox C od) (k : Keep h h') : InstAt h' x ox C od := ⟨k _ _ I.at_, I.cls, I.no, by
  have := I.dict
  split at this <;> first | exact k _ _ this | exact this⟩
local macro_rules | `(tactic| x_close) => `(tactic| ((rename RM _ => rm'); refine rm'.out _ _ _ (by first | rfl | kernel_rfl) (by first | exact memKeep (by assumption) | exact Keep.refl _)))
theorem x_type {w : World} {s : Shared} {Q E : Value → Shared → Prop} {t : Tok} {a dx : Addr} (K : (hd.heap_39 w.params).In s.heap) (h1 : s.heap.get? a = some (ctObj t dx)) (h2 : s.heap.get? dx = some emptyD)
   (hret : ∀ v h' tk, v = .ref 159 → Keep s.heap h' → Q v { s with heap := h', toks := tk }) :
   wpAny (model PySem.Challenge.rw_ey0021_01.row.prog w) Ax (call (.type "type") [.ref a]) Q E s := by
  revert K; k_fill; intro K
  obtain ⟨h, g, d, tk, os⟩ := s
  have rm : RM _ := ⟨hret⟩
  clear hret
  unfold ctObj at h1
  unfold emptyD at h2
  x_run
theorem x_issub {w : World} {s : Shared} {Q E : Value → Shared → Prop}  (K : (hd.heap_39 w.params).In s.heap) 
   (hret : ∀ v h' tk, v = .bool true → Keep s.heap h' → Q v { s with heap := h', toks := tk }) :
   wpAny (model PySem.Challenge.rw_ey0021_01.row.prog w) Ax (call (.builtin "issubclass") [.ref 159, .type "tuple"]) Q E s := by
  revert K; k_fill; intro K
  obtain ⟨h, g, d, tk, os⟩ := s
  have rm : RM _ := ⟨hret⟩
  clear hret
  x_run


theorem tgi_kind : builtinKind "tuple.__getitem__" = some .slot := by decide +kernel
theorem tgi_split : splitId "tuple.__getitem__" = some ("tuple", "__getitem__") := by decide +kernel
theorem tgi_quiet (a : Args) : (Code.builtin "tuple.__getitem__" a).quiet = true := Code.quiet_builtin _ (by decide +kernel)
theorem x_tgi {w : World} {A : Around} {s : Shared} {Q E : Value → Shared → Prop} {t u : Tok} {a dx : Addr} (K : (hd.heap_39 w.params).In s.heap) (h1 : s.heap.get? a = some (ctObj t dx)) (h2 : s.heap.get? dx = some emptyD)
   (hret : ∀ v h' tk, v = Value.ref 178 → Keep s.heap h' → Q v { s with heap := h', toks := tk }) :
   wpAny (model PySem.Challenge.rw_ey0021_01.row.prog w) A (call (.builtin "tuple.__getitem__") [.ref a, .int 1 u]) Q E s := by
  revert K; k_fill; intro K
  obtain ⟨h, g, d, tk, os⟩ := s
  have t1 : Looks (model PySem.Challenge.rw_ey0021_01.row.prog w) h (typeOf (.ref a)) (.ref 159) := (Looks.ld h1).andThen .now
  have s1 : Looks (model PySem.Challenge.rw_ey0021_01.row.prog w) h (isSubtype (.ref 159) (.type "tuple")) true := looks_subIn K (by k_dflt k_is)
  refine wpAny_call ?_
  refine codeAny_call_builtin_at (tgi_quiet _) PyProof.Rows.entry_tuple_getitem ?_
  with_reducible refine check_slot tgi_kind tgi_split ?hi ?ha ?_
  case hi => exact t1.andThen s1
  case ha => exact PyProof.Rows.args_tuple_getitem _ _
  show wpAny _ _ (Builtin.Tuple.tupleItemsOf (.ref a) >>= _) _ _ _
  unfold Builtin.Tuple.tupleItemsOf
  refine wpAny_bind (wpAny_bind (wpAny_seqItems h1 rfl (wpAny_pure (wpAny_pure ?_))))
  exact hret _ _ _ rfl (Keep.refl _)
local macro_rules | `(tactic| walk_at "call type:type") => `(tactic| (k_here; (with_reducible show wpAny _ _ (call (Value.type "type") [Value.ref _]) _ _ _); (rename Fr _ _ _ _ => F9); (rename News _ _ _ _ => N9); (refine' wk rfl ?d ?u (x_type (Frag.In.keeps ?X (Fr.keep F9)) (InstAt.at_ (InstAt.keeps (by assumption) (Fr.keep F9))) (Fr.keep F9 _ _ (by assumption)) ?_); (case X => assumption); (case d => (try simp only [depth_deeper]); omega); (case u => (try simp only [units_deeper]); omega)); (intro v9 h9 tk9 e9 K9); (subst e9); (have F9' := Fr.keeps F9 K9); (have N9' := News.grown N9 K9); clear F9 N9; (try dsimp only)))
local macro_rules | `(tactic| walk_at "call builtin:issubclass") => `(tactic| (k_here; (with_reducible show wpAny _ _ (call (Value.builtin "issubclass") [Value.ref 159, Value.type "tuple"]) _ _ _); (rename Fr _ _ _ _ => F9); (rename News _ _ _ _ => N9); (refine' wk rfl ?d ?u (x_issub (Frag.In.keeps ?X (Fr.keep F9))  ?_); (case X => assumption); (case d => (try simp only [depth_deeper]); omega); (case u => (try simp only [units_deeper]); omega)); (intro v9 h9 tk9 e9 K9); (subst e9); (have F9' := Fr.keeps F9 K9); (have N9' := News.grown N9 K9); clear F9 N9; (try dsimp only)))
local macro_rules | `(tactic| walk_at "call builtin:tuple.__getitem__") => `(tactic| (k_here; (with_reducible show wpAny _ _ (call (Value.builtin "tuple.__getitem__") [Value.ref _, Value.int 1 _]) _ _ _); (rename Fr _ _ _ _ => F9); (rename News _ _ _ _ => N9); (refine' wk rfl ?d ?u (x_tgi (Frag.In.keeps ?X (Fr.keep F9)) (InstAt.at_ (InstAt.keeps (by assumption) (Fr.keep F9))) (Fr.keep F9 _ _ (by assumption)) ?_); (case X => assumption); (case d => (try simp only [depth_deeper]); omega); (case u => (try simp only [units_deeper]); omega)); (intro v9 h9 tk9 e9 K9); (subst e9); (have F9' := Fr.keeps F9 K9); (have N9' := News.grown N9 K9); clear F9 N9; (try dsimp only)))
local macro_rules | `(tactic| walk_at "getMethod type:tuple") => `(tactic| (k_here; refine' method_type ?F ?X ?m (by decide +kernel) ?e ?h ?_; (case F => k_asm); (case X => k_asm); (case m => exact meta_tuple); (case e => k_dflt k_is); (case h => k_handed)))
theorem c_get (w : World) (mg mb) (a dx : Addr) (t : Tok) : PS w mg mb 3 67 [.ref 151, .ref a, .ref 159] [] (fun h => h.get? a = some (ctObj t dx) ∧ h.get? dx = some emptyD) (fun h v => v = .ref 178) := by
  unfold PS
  k_fill
  intro dp fr gd un s Q E hK hT hdp hun hpre hret
  obtain ⟨e1, e2⟩ := hpre
  have I : InstAt s.heap a (ctObj t dx) 159 (some emptyD) := ⟨e1, rfl, rfl, e2⟩
  refine wpAny_call ?_
  k_dflt cell_enter
  k_steps
  rename Fr _ _ _ _ => F9
  exact hret _ _ _ F9.keep rfl

end Mine
end
section
open PySem PySem.W PySem.W.X PySem.Calls PyProof.Rows
namespace Mine
local macro_rules | `(tactic| k_room) => `(tactic| ((try simp only [depth_under_make, depth_under_kw, depth_in1, depth_deeper, depth_caller]); (simp only [recursionLimit] at *); omega))
local macro_rules | `(tactic| cell_enter) => `(tactic| first
  | (refine' pEnter [] ?k1 ?k2 ?k6 ?k7 ?k8 ?k9 ?kB ?_ ?c2 ?c3 ?c4 ?c5; (case k1 => k_asm); (case k2 => exact TopRead.nolimit (by assumption)); (case k6 => k_is); (case k7 => k_is); (case k8 => k_room); (case k9 => first | exact BindsTo.of_eq rfl | exact binds_K (by k_in) rfl (by k_is) rfl rfl rfl | fail "no rule for these arguments"); (case c5 => decide); (case kB => exact locs rfl); (case c2 => exact rfl); (case c3 => exact rfl); (case c4 => exact rfl); k_whole; intro h₁ L₁ hL₁ F₁ K₁; (rw [hideNil] at F₁); (have N₁ := newsNil F₁); (try dsimp only); (try k_fold))
  | (refine' pEnterC [] ?k1 ?k2 ?k6 ?k7 ?k8 ?k9 ?kB ?kD ?_ ?c2 ?c3 ?c4; (case k1 => k_asm); (case k2 => exact TopRead.nolimit (by assumption)); (case k6 => k_is); (case k7 => k_is); (case k8 => k_room); (case k9 => first | exact BindsTo.of_eq rfl | exact binds_K (by k_in) rfl (by k_is) rfl rfl rfl | fail "no rule for these arguments"); (case kB => exact rfl); (case kD => decide +kernel); (case c2 => exact rfl); (case c3 => exact rfl); (case c4 => exact rfl); k_whole; intro h₁ L₁ tk₁ cells₁ hL₁ F₁ N₁ Y₁ K₁ C₁; (rw [hideNil] at F₁ N₁); k_cells Y₁; (try simp only [List.cons_append, List.nil_append] at N₁); (try dsimp only); (try k_fold)))

theorem tga_kind : builtinKind "tuple.__getattribute__" = some .slot := by decide +kernel
theorem tga_split : splitId "tuple.__getattribute__" = some ("tuple", "__getattribute__") := by decide +kernel
theorem tga_quiet (a : Args) : (Code.builtin "tuple.__getattribute__" a).quiet = true := Code.quiet_builtin _ (by decide +kernel)
theorem get_widths {w : World} {mg mb} {a dx : Addr} {t : Tok} {dp : Nat} {fr : Option (List Env)} {gd : Option (List Code)} {un : Nat} {s : Shared} {Q E : Value → Shared → Prop} {expr : Bool} (X : (hd.heap_39 w.params).In s.heap) (T : TopRead hd.view_39 LP mg mb s.heap) (hdp : dp + 5 < 900) (hun : un + 100 < 9000)
   (e1 : s.heap.get? a = some (ctObj t dx)) (e2 : s.heap.get? dx = some emptyD)
   (hret : ∀ h' tk', Keep s.heap h' → Q (.ref 178) { heap := h', gens := s.gens, drawn := s.drawn, toks := tk', os := s.os }) :
   wpAny (model PySem.Challenge.rw_ey0021_01.row.prog w) (AA dp fr gd un) (getAttr (.ref a) (Str.ofString "widths") expr) Q E s := by
  revert X; k_fill; intro X
  have I : InstAt s.heap a (ctObj t dx) 159 (some emptyD) := ⟨e1, rfl, rfl, e2⟩
  have L0 := I.type (M := model PySem.Challenge.rw_ey0021_01.row.prog w)
  have L1 : Looks (model PySem.Challenge.rw_ey0021_01.row.prog w) s.heap (typeLookup (.ref 159) "__getattribute__") (some (.builtin "tuple.__getattribute__")) := looks_findIn X (by k_dflt k_is)
  have L2 : Looks (model PySem.Challenge.rw_ey0021_01.row.prog w) s.heap (typeLookup (.ref 159) "__getattr__") none := looks_findIn X (by k_dflt k_is)
  have L3 : Looks (model PySem.Challenge.rw_ey0021_01.row.prog w) s.heap (isSubtype (.ref 159) (.type "tuple")) true := looks_subIn X (by k_dflt k_is)
  have L4 : Looks (model PySem.Challenge.rw_ey0021_01.row.prog w) s.heap (Builtin.ObjectAttr.find (.ref a) (.ref 159) (Str.ofString "widths")) (Builtin.ObjectAttr.Found.bind (.ref 67) (.ref 151)) := looks_find X I (findObj_data (by kernel_rfl) (by k_dflt k_is) (by k_dflt k_is) (by k_dflt k_is))
  obtain ⟨h, g, d, tk, os⟩ := s
  unfold getAttr getAttrBy
  refine wpAny_bind (wpAny_mkText (wpAny_holding (wpAny_bind (L0.at (wpAny_bind (L1.at ?_))))))
  show wpAny _ _ (getAttrByItsOwn _ _ _ _ _ _) _ _ _
  unfold getAttrByItsOwn
  refine wpAny_bind (L2.at ?_)
  refine wpAny_bind (wpAny_attempt (wpAny_holding ?_))
  unfold callGetattribute
  rw [if_neg (by cases expr <;> decide)]
  unfold boundAndCalled
  rw [PySem.F.slot_tuple_getattribute.bind]
  refine wpAny_bind (wpAny_pure ?_)
  show wpAny _ _ (call (.builtin "tuple.__getattribute__") [.ref a, .str (Str.ofString "widths") tk]) _ _ _
  refine wpAny_call ?_
  refine codeAny_call_builtin_at (tga_quiet _) PySem.am_entry_tuple_getattribute ?_
  with_reducible refine check_slot tga_kind tga_split ?hi ?ha ?_
  case hi => exact L0.andThen L3
  case ha => exact PySem.F.args_tuple_getattribute_2 _ _
  unfold Builtin.«object.__getattribute__»
  refine wpAny_bind (wpAny_pure (wpAny_bind (wpAny_pure ?_)))
  refine wpAny_bind (L0.at ?_)
  refine wpAny_bind (L4.at ?_)
  show wpAny _ _ (holding [.ref 151] (call (.ref 67) [.ref 151, .ref a, .ref 159]) >>= ret) _ _ _
  refine wpAny_bind (wpAny_holding ?_)
  refine c_get w mg mb a dx t _ _ _ _ _ _ _ X T ?_ ?_ ⟨e1, e2⟩ ?_
  · show dp + (Code.weight _) + 3 < 900
    have hw : ∀ l, (Code.builtin "tuple.__getattribute__" ⟨.ref a :: l, []⟩).weight = 0 := fun _ => rfl
    rw [hw]; omega
  · show un + (Code.cUnits _) + 20 * 3 < 9000
    have hw : ∀ l, (Code.builtin "tuple.__getattribute__" ⟨.ref a :: l, []⟩).cUnits = 1 := fun _ => rfl
    rw [hw]; omega
  rintro v h' tk' k1 rfl
  refine wpAny_pure ?_
  exact handed_on rfl (hret _ _ k1)
local macro_rules | `(tactic| walk_at "call ref") => `(tactic| (k_here; (with_reducible show wpAny _ _ (call (Value.ref 187) [Value.str _ _]) _ _ _); (rename Fr _ _ _ _ => F9); (rename News _ _ _ _ => N9); (rename TopRead _ _ _ _ _ => T9); (refine' c_load _ _ _ _ _ _ _ _ _ _ _ (Frag.In.keeps ?X (Fr.keep F9)) (TopRead.keeps T9 (Fr.keep F9)) ?d ?u ?p ?_; (case X => assumption); (case d => (try simp only [depth_deeper]); omega); (case u => (try simp only [units_deeper]); omega); (case p => trivial)); (intro v9 h9 tk9 K9 R9); (have F9' := Fr.keeps F9 K9); (have N9' := News.grown N9 K9); clear F9 N9; (obtain ⟨a8, dx8, t8, e8, e8a, e8b⟩ := R9); (subst e8); (try dsimp only)))
local macro_rules | `(tactic| walk_at "getAttr ref") => `(tactic| (k_here; (rename_i a8 dx8 _ _ _ e8a e8b); (rename Fr _ _ _ _ => F9); (rename News _ _ _ _ => N9); (rename TopRead _ _ _ _ _ => T9); (refine' get_widths (Frag.In.keeps ?X (Fr.keep F9)) (TopRead.keeps T9 (Fr.keep F9)) ?d ?u ?e1 ?e2 ?_; (case X => assumption); (case d => (try simp only [depth_deeper]); omega); (case u => (try simp only [units_deeper]); omega); (case e1 => assumption); (case e2 => assumption)); (intro h9 tk9 K9); (have F9' := Fr.keeps F9 K9); (have N9' := News.grown N9 K9); clear F9 N9; (try dsimp only)))
theorem c_gccs (w : World) (mg mb) (c : Nat) (t u : Tok) : PS w mg mb 8 209 [.str ⟨#[c]⟩ t, .str (Str.ofString "auto") u] [] (fun _ => okc c) (fun _ v => ∃ t, v = .int (wd c) t) := by
  unfold PS
  k_fill
  intro dp fr gd un s Q E hK hT hdp hun hpre hret
  refine wpAny_call ?_
  k_dflt cell_enter
  rcases hpre with ⟨hc1, hc2⟩ | hc
  · have hc3 : (32 : Int) ≤ (c : Int) := by omega
    have hc4 : (c : Int) ≤ 126 := by omega
    k_steps
    · rename Fr _ _ _ _ => F9
      exact hret _ _ _ F9.keep ⟨_, by rw [wd, if_neg (by omega)]⟩
    · exfalso; omega
  · subst hc
    k_steps
    rename Fr _ _ _ _ => F9
    exact hret _ _ _ F9.keep ⟨_, rfl⟩

end Mine
end
section
open PySem PySem.W PySem.W.X PySem.Calls PyProof.Rows
namespace Mine
section
variable {prog : Program} {w : World} {A : Around} {E : Value → Shared → Prop} {Q : Flow → Shared → Prop} {s : Shared} {env : Env} {h₀ : Heap} {target : Expr} {body orelse : List Stmt}
/-- a for loop over an iterator at hand -/
def GLoop (prog : Program) (w : World) (A : Around) (env : Env) (target : Expr) (body orelse : List Stmt) (Q : Flow → Shared → Prop) (E : Value → Shared → Prop) (it : Value) (s : Shared) : Prop :=
  codeAny (model prog w) A (.forLoop target it body orelse env) (fun r s' => match r with | .ok f => Q f s' | .error e => cameBackBy (model prog w) A env E e s') s
theorem For_G {iter : Expr} {pos : Pos} (h : wpAny (model prog w) A (eval iter env) (fun xv s₁ => wpAny (model prog w) A (pyIter xv) (fun it s₂ => GLoop prog w A env target body orelse Q E it s₂) E s₁) E s)
    (hs : ∀ x, foldedSetIterable iter env x = pure x) : wpAny (model prog w) A (exec (.For target iter body orelse pos) env) Q E s :=
  wpAny_For h hs
/-- the end of a turn -/
def GEnd (h₀ : Heap) (L : Addr) (fp : List Addr) (own : List (Addr × Obj)) (J : (Str → Option Value) → List (Addr × Obj) → Array GenState → Prop) (d : Drawn) (os : OsState) (s' : Shared) : Prop :=
  ∃ h' tk' g' m' news', s' = { heap := h', gens := g', drawn := d, toks := tk', os := os } ∧ Fr h₀ L h' m' ∧ News h₀ L h' (news' ++ own) ∧ (∀ p ∈ news', p.1 ∉ fp) ∧ J m' news' g'
def GPost (h₀ : Heap) (L : Addr) (fp : List Addr) (own : List (Addr × Obj)) (J : (Str → Option Value) → List (Addr × Obj) → Array GenState → Prop) (d : Drawn) (os : OsState) (Q : Flow → Shared → Prop) (f : Flow) (s' : Shared) : Prop :=
  match f with
  | .next | .cont => GEnd h₀ L fp own J d os s'
  | .brk => Q .next s'
  | .ret v => Q (.ret v) s'
theorem GPost.fin {L : Addr} {fp : List Addr} {own : List (Addr × Obj)} {J : (Str → Option Value) → List (Addr × Obj) → Array GenState → Prop} {d : Drawn} {os : OsState} {h' : Heap} {m' : Str → Option Value} {g' : Array GenState} {tk : Nat} (news' : List (Addr × Obj))
    (F : Fr h₀ L h' m') (N : News h₀ L h' (news' ++ own)) (hf : ∀ p ∈ news', p.1 ∉ fp) (hJ : J m' news' g') : GPost h₀ L fp own J d os Q .next { heap := h', gens := g', drawn := d, toks := tk, os := os } := ⟨_, _, _, _, _, rfl, F, N, hf, hJ⟩
theorem GPost.finC {L : Addr} {fp : List Addr} {own : List (Addr × Obj)} {J : (Str → Option Value) → List (Addr × Obj) → Array GenState → Prop} {d : Drawn} {os : OsState} {h' : Heap} {m' : Str → Option Value} {g' : Array GenState} {tk : Nat} (news' : List (Addr × Obj))
    (F : Fr h₀ L h' m') (N : News h₀ L h' (news' ++ own)) (hf : ∀ p ∈ news', p.1 ∉ fp) (hJ : J m' news' g') : GPost h₀ L fp own J d os Q .cont { heap := h', gens := g', drawn := d, toks := tk, os := os } := ⟨_, _, _, _, _, rfl, F, N, hf, hJ⟩
theorem GPost.brk {L : Addr} {fp : List Addr} {own : List (Addr × Obj)} {J : (Str → Option Value) → List (Addr × Obj) → Array GenState → Prop} {d : Drawn} {os : OsState} {s' : Shared} (h : Q .next s') : GPost h₀ L fp own J d os Q .brk s' := h
theorem GPost.ret {L : Addr} {fp : List Addr} {own : List (Addr × Obj)} {J : (Str → Option Value) → List (Addr × Obj) → Array GenState → Prop} {d : Drawn} {os : OsState} {s' : Shared} {v : Value} (h : Q (.ret v) s') : GPost h₀ L fp own J d os Q (.ret v) s' := h
theorem gloop {I : Addr} {fp wr : List Addr} {n : Nat} {P : Nat → Value → Prop} {St : Nat → Heap → Prop} {m₀ : Str → Option Value} {news : List (Addr × Obj)} (J : Nat → (Str → Option Value) → List (Addr × Obj) → Array GenState → Prop)
    (W : Walks prog w A I fp wr n P St) (hLf : env.locals ∉ fp) (hwr : ∀ b ∈ wr, h₀.get? b = none) (hst : St 0 s.heap) (F : Fr h₀ env.locals s.heap m₀) (N : News h₀ env.locals s.heap news) (hfp : ∀ p ∈ news, p.1 ∉ fp) (hj : J 0 m₀ news s.gens)
    (hgo : ∀ i (s' : Shared) v (Q' : Unit → Shared → Prop), St i s'.heap → Q' () s' → wpAny (model prog w) A (letOwnedTupleGo target (.ref I) v) Q' E s')
    (hE : PassesOwn (model prog w) A env E)
    (turn : ∀ i v m₁ nx h tk g own, i < n → P i v → OwnOff own (nx.map (·.1)) → (∀ p ∈ nx, p.1 ∉ fp) → (∀ p ∈ own, p.1 ∈ fp) → J i m₁ nx g → Fr h₀ env.locals h m₁ → News h₀ env.locals h (nx ++ own) →
      wpAny (model prog w) A (assign target env v) (fun _ s₂ => wpAny (model prog w) A (execs body env) (GPost h₀ env.locals fp own (J (i + 1)) s.drawn s.os Q) E s₂) E { heap := h, gens := g, drawn := s.drawn, toks := tk, os := s.os })
    (done : ∀ m₁ nx h tk g, (∀ p ∈ nx, p.1 ∉ fp) → J n m₁ nx g → Fr h₀ env.locals h m₁ → News h₀ env.locals h nx → wpAny (model prog w) A (execs orelse env) Q E { heap := h, gens := g, drawn := s.drawn, toks := tk, os := s.os }) :
    GLoop prog w A env target body orelse Q E (.ref I) s := by
  have hLw : env.locals ∉ wr := fun h => hLf (W.sub _ h)
  have old : ∀ b o, h₀.get? b = some o → b ∉ wr := fun b o e hb => by rw [hwr b hb] at e; cases e
  unfold GLoop
  refine codeAny_forLoop_any
    (fun k s' => ∃ i h' tk' g' m' nx, s' = { heap := h', gens := g', drawn := s.drawn, toks := tk', os := s.os } ∧ i ≤ n ∧ k = n - i ∧ St i h' ∧ Fr h₀ env.locals h' m' ∧ News h₀ env.locals h' nx ∧ (∀ p ∈ nx, p.1 ∉ fp) ∧ J i m' nx g') ?_ n
    ⟨0, s.heap, s.toks, s.gens, m₀, news, rfl, Nat.zero_le _, rfl, hst, F, N, hfp, hj⟩
  rintro k s' ⟨i, h', tk', g', m', nx, rfl, hi, rfl, hst', F', N', hfp', hJ⟩
  have move : ∀ h₁ : Heap, (∀ b o, b ∉ wr → h'.get? b = some o → h₁.get? b = some o) → Fr h₀ env.locals h₁ m' ∧ News h₀ env.locals h₁ nx := fun h₁ hk =>
    ⟨⟨F'.ns.at' fun o e => hk _ o hLw e, fun b o e => hk b o (old b o e) (F'.keep b o e), F'.above⟩, fun p hp => ⟨hk _ _ (fun hw => hfp' p hp (W.sub _ hw)) (N' p hp).1, (N' p hp).2⟩⟩
  rcases Nat.lt_or_ge i n with hlt | hge
  · refine W.item i _ _ _ hlt hst' fun v h₁ tk₁ hP hst₁ hk => ?_
    obtain ⟨F₁, N₁⟩ := move h₁ hk
    have Nown : News h₀ env.locals h₁ (ownOf h₀ fp h₁) := news_ownOf hLf
    refine wpAny_passesOwn hE (hgo (i + 1) _ v _ hst₁ ?_)
    refine wpAny_passesOwn hE (wpAny_mono (turn i v m' nx h₁ tk₁ g' (ownOf h₀ fp h₁) hlt hP (fun p hp b hb e => ?_) hfp' ownOf_sub hJ F₁ (N₁.append Nown)) (fun _ s₂ h₂ => wpAny_passesOwn hE (wpAny_mono h₂ (fun f s₃ h₃ => ?_) fun _ _ e => e)) fun _ _ e => e)
    · obtain ⟨q, hq, rfl⟩ := List.mem_map.mp hb
      exact hfp' q hq (e ▸ ownOf_sub p hp)
    · have fin : GEnd h₀ env.locals fp (ownOf h₀ fp h₁) (J (i + 1)) s.drawn s.os s₃ → ∃ m, m < n - i ∧ ∃ i h' tk' g' m' nx, s₃ = { heap := h', gens := g', drawn := s.drawn, toks := tk', os := s.os } ∧ i ≤ n ∧ m = n - i ∧ St i h' ∧ Fr h₀ env.locals h' m' ∧ News h₀ env.locals h' nx ∧ (∀ p ∈ nx, p.1 ∉ fp) ∧ J i m' nx g' := by
        rintro ⟨h₂', tk₂, g₂, m₂, nx₂, rfl, F₂, N₂, hf₂, hJ₂⟩
        refine ⟨n - (i + 1), by omega, i + 1, h₂', tk₂, g₂, m₂, nx₂, rfl, hlt, rfl, ?_, F₂, fun p hp => N₂ p (List.mem_append_left _ hp), hf₂, hJ₂⟩
        refine W.frame _ _ _ hst₁ fun b hb o e => ?_
        cases hn : h₀.get? b with
        | some o₀ =>
          have h1 := F₁.keep b o₀ hn
          rw [e] at h1
          cases h1
          exact F₂.keep b o hn
        | none => exact (N₂ _ (List.mem_append_right _ (mem_ownOf hb hn e))).1
      cases f with
      | next => exact fin h₃
      | cont => exact fin h₃
      | brk => exact h₃
      | ret v => exact h₃
  · have e : i = n := by omega
    subst e
    refine W.done _ _ _ hst' fun h₁ tk₁ hk => wpAny_passesOwn hE ?_
    obtain ⟨F₁, N₁⟩ := move h₁ hk
    exact done m' nx h₁ tk₁ g' hfp' hJ F₁ N₁
/-- over a text -/
theorem gtext {xt : Str} {tx : Tok} {x : Str} {px : Pos} {m₀ : Str → Option Value} {news : List (Addr × Obj)} (J : Nat → (Str → Option Value) → List (Addr × Obj) → Array GenState → Prop)
    (hx : env.kindOf x = some .local) (hp : (env.scope.kind == .class || (env.scope.kind == .module && env.locals != env.globals)) = false)
    (hh : A.handled = none) (F : Fr h₀ env.locals s.heap m₀) (N : News h₀ env.locals s.heap news) (hj : J 0 m₀ news s.gens)
    (hE : PassesOwn (model prog w) A env E)
    (turn : ∀ i c t m₁ nx h tk g own, xt.cps[i]? = some c → OwnOff own (nx.map (·.1)) → (∀ p ∈ nx, p.1 ≠ s.heap.objs.size) → (∀ p ∈ own, p.1 = s.heap.objs.size) → J i m₁ nx g → Fr h₀ env.locals h (fun y => if y = x then some (.str ⟨#[c]⟩ t) else m₁ y) → News h₀ env.locals h (nx ++ own) →
      wpAny (model prog w) A (execs body env) (GPost h₀ env.locals [s.heap.objs.size] own (J (i + 1)) s.drawn s.os Q) E { heap := h, gens := g, drawn := s.drawn, toks := tk, os := s.os })
    (done : ∀ m₁ nx h tk g, J xt.cps.size m₁ nx g → Fr h₀ env.locals h m₁ → News h₀ env.locals h nx → Q .next { heap := h, gens := g, drawn := s.drawn, toks := tk, os := s.os }) :
    wpAny (model prog w) A (pyIter (.str xt tx)) (fun it s₂ => GLoop prog w A env (.Name x px) body [] Q E it s₂) E s := by
  refine wpAny_pyIter_str fun o St hW hst => ?_
  refine gloop (h₀ := h₀) (m₀ := m₀) (news := news) (s := { s with heap := s.heap.push o }) J (hW A hh) ?_ ?_ hst (F.push _) (fun p hp => ⟨Heap.get?_push_of_some _ (N p hp).1, (N p hp).2⟩) ?_ hj (fun _ _ _ _ _ h => wpAny_pure h) hE ?_ ?_
  · intro hm
    exact absurd F.ns.lt ((List.mem_singleton.mp hm) ▸ Nat.lt_irrefl _)
  · intro b' hb
    rw [List.mem_singleton.mp hb]
    exact next_is_new F
  · intro p hp hI
    exact absurd (Heap.lt_size (N p hp).1) ((List.mem_singleton.mp hI) ▸ Nat.lt_irrefl _)
  · rintro i v m₁ nx h tk g own hi ⟨c, u, hc, rfl⟩ hoff hnx how hJ F₁ N₁
    refine wpAny_assign_Name (wpAny_storeName_local hx F₁.ns (fun h' hn hs => ?_) hp)
    exact turn i c u m₁ nx h' _ g own hc hoff (fun p hp e => hnx p hp (by simp [e])) (fun p hp => List.mem_singleton.mp (how p hp)) hJ (F₁.set hn hs) (N₁.set hs)
  · intro m₁ nx h tk g _ hJ F₁ N₁
    exact wpAny_execs_nil (done m₁ nx h tk g hJ F₁ N₁)
/-- over a list that stands -/
theorem glist {l : Addr} {items : Array Value} {m₀ : Str → Option Value} {news : List (Addr × Obj)} (J : Nat → (Str → Option Value) → List (Addr × Obj) → Array GenState → Prop)
    (hl : s.heap.IsList l items) (hlL : l ≠ env.locals) (hln : ∀ p ∈ news, p.1 ≠ l)
    (hh : A.handled = none) (F : Fr h₀ env.locals s.heap m₀) (N : News h₀ env.locals s.heap news) (hj : J 0 m₀ news s.gens)
    (hE : PassesOwn (model prog w) A env E)
    (turn : ∀ i v m₁ nx h tk g own, items[i]? = some v → OwnOff own (nx.map (·.1)) → (∀ p ∈ nx, p.1 ∉ [s.heap.objs.size, l]) → (∀ p ∈ own, p.1 ∈ [s.heap.objs.size, l]) → J i m₁ nx g → Fr h₀ env.locals h m₁ → News h₀ env.locals h (nx ++ own) →
      wpAny (model prog w) A (assign target env v) (fun _ s₂ => wpAny (model prog w) A (execs body env) (GPost h₀ env.locals [s.heap.objs.size, l] own (J (i + 1)) s.drawn s.os Q) E s₂) E { heap := h, gens := g, drawn := s.drawn, toks := tk, os := s.os })
    (done : ∀ m₁ nx h tk g, (∀ p ∈ nx, p.1 ∉ [s.heap.objs.size, l]) → J items.size m₁ nx g → Fr h₀ env.locals h m₁ → News h₀ env.locals h nx → wpAny (model prog w) A (execs orelse env) Q E { heap := h, gens := g, drawn := s.drawn, toks := tk, os := s.os }) :
    wpAny (model prog w) A (pyIter (.ref l)) (fun it s₂ => GLoop prog w A env target body orelse Q E it s₂) E s := by
  refine wpAny_pyIter_list hl ?_
  obtain ⟨ol, hol, _⟩ := id hl
  have hlt : l < s.heap.objs.size := Heap.lt_size hol
  have hne : l ≠ s.heap.objs.size := Nat.ne_of_lt hlt
  refine gloop (h₀ := h₀) (m₀ := m₀) (news := news) (s := { s with heap := s.heap.push { cls := .type "list_iterator", data := .fields #[.ref l, .int 0 0] } }) J (Walks.list hh s.heap.objs.size l hne items) ?_ ?_ ⟨⟨_, Heap.get?_push_size _ rfl, rfl, rfl⟩, hl.at fun o e => Heap.get?_push_of_some _ e⟩ (F.push _) (fun p hp => ⟨Heap.get?_push_of_some _ (N p hp).1, (N p hp).2⟩) ?_ hj (fun i s' v Q' st hQ' => letGo_listiter st.1 hQ') hE ?_ ?_
  · intro hm
    rcases List.mem_cons.mp hm with e | hm
    · exact absurd F.ns.lt (e ▸ Nat.lt_irrefl _)
    · exact hlL (List.mem_singleton.mp hm).symm
  · intro b' hb
    rw [List.mem_singleton.mp hb]
    exact next_is_new F
  · intro p hp hI
    rcases List.mem_cons.mp hI with e | hI
    · exact absurd (Heap.lt_size (N p hp).1) (e ▸ Nat.lt_irrefl _)
    · exact hln p hp (List.mem_singleton.mp hI)
  · rintro i v m₁ nx h tk g own hi hv hoff hnx how hJ F₁ N₁
    exact turn i v m₁ nx h tk g own hv hoff hnx how hJ F₁ N₁
  · intro m₁ nx h tk g hnx hJ F₁ N₁
    exact done m₁ nx h tk g hnx hJ F₁ N₁
theorem Fr.know {L : Addr} {h : Heap} {m : Str → Option Value} {y : Str} {v : Value} (F : Fr h₀ L h m) (e : m y = some v) : Fr h₀ L h (fun z => if z = y then some v else m z) := by
  have : m = fun z => if z = y then some v else m z := by
    funext z
    by_cases hz : z = y
    · rw [if_pos hz, hz, e]
    · rw [if_neg hz]
  exact this ▸ F
end
end Mine
end
section
open PySem PySem.W PySem.W.X PySem.Calls PyProof.Rows
namespace Mine
local macro_rules | `(tactic| k_room) => `(tactic| ((try simp only [depth_under_make, depth_under_kw, depth_in1, depth_deeper, depth_caller]); (simp only [recursionLimit] at *); omega))
local macro_rules | `(tactic| cell_enter) => `(tactic| first
  | (refine' pEnter [] ?k1 ?k2 ?k6 ?k7 ?k8 ?k9 ?kB ?_ ?c2 ?c3 ?c4 ?c5; (case k1 => k_asm); (case k2 => exact TopRead.nolimit (by assumption)); (case k6 => k_is); (case k7 => k_is); (case k8 => k_room); (case k9 => first | exact BindsTo.of_eq rfl | exact binds_K (by k_in) rfl (by k_is) rfl rfl rfl | fail "no rule for these arguments"); (case c5 => decide); (case kB => exact locs rfl); (case c2 => exact rfl); (case c3 => exact rfl); (case c4 => exact rfl); k_whole; intro h₁ L₁ hL₁ F₁ K₁; (rw [hideNil] at F₁); (have N₁ := newsNil F₁); (try dsimp only); (try k_fold))
  | (refine' pEnterC [] ?k1 ?k2 ?k6 ?k7 ?k8 ?k9 ?kB ?kD ?_ ?c2 ?c3 ?c4; (case k1 => k_asm); (case k2 => exact TopRead.nolimit (by assumption)); (case k6 => k_is); (case k7 => k_is); (case k8 => k_room); (case k9 => first | exact BindsTo.of_eq rfl | exact binds_K (by k_in) rfl (by k_is) rfl rfl rfl | fail "no rule for these arguments"); (case kB => exact rfl); (case kD => decide +kernel); (case c2 => exact rfl); (case c3 => exact rfl); (case c4 => exact rfl); k_whole; intro h₁ L₁ tk₁ cells₁ hL₁ F₁ N₁ Y₁ K₁ C₁; (rw [hideNil] at F₁ N₁); k_cells Y₁; (try simp only [List.cons_append, List.nil_append] at N₁); (try dsimp only); (try k_fold)))

local macro_rules | `(tactic| walk_at "exec For") => `(tactic| (k_here; (with_reducible show wpAny _ _ (exec (Stmt.For _ _ _ _ _) _) _ _ _); (refine' For_G ?_ (fun _ => rfl))))
theorem c_single (w : World) (mg mb) (x : Str) (t : Tok) : PS w mg mb 4 201 [.str x t] [] (fun _ => okx x) (fun _ v => v = .bool (narrow x)) := by
  unfold PS
  k_fill
  intro dp fr gd un s Q E hK hT hdp hun hpre hret
  refine wpAny_call ?_
  k_dflt cell_enter
  k_steps
  rename Fr _ _ _ _ => F9
  rename News _ _ _ _ => N9
  refine' gtext (fun i m nx g => g = s.gens ∧ nx = [] ∧ ∀ j c, j < i → x.cps[j]? = some c → c ≠ 20013) rfl rfl rfl F9 N9 ⟨rfl, rfl, fun j c h => by omega⟩ ?hE ?turn ?done
  case hE => passes_own
  case turn =>
    rintro i c u m₁ nx h tk g own hc hoff hnx how ⟨rfl, rfl, hj⟩ F₁ N₁
    rw [List.nil_append] at N₁
    clear F9 N9
    have hok : okc c := hpre c (Array.mem_toList_iff.mpr (Array.mem_of_getElem? hc))
    rcases hok with ⟨hc1, hc2⟩ | hc0
    · have hc3 : (32 : Int) ≤ (c : Int) := by omega
      have hc4 : (c : Int) ≤ 126 := by omega
      k_steps
      rename Fr _ _ _ _ => F8
      rename News _ _ _ _ => N8
      have how8 := how
      refine' glist (l := 194) (items := #[.ref 188, .ref 189, .ref 190, .ref 191, .ref 192, .ref 193]) (fun i m nx g => g = s.gens ∧ nx = own ∧ i = 0 ∧ ∃ u, m (Str.ofString "codepoint") = some (.int c u)) ?hl2 ?hlL2 ?hln2 rfl F8 N8 ⟨rfl, rfl, rfl, _, rfl⟩ ?hE2 ?turn2 ?done2
      case hl2 => exact ⟨_, (Frag.In.keeps hK (Fr.keep F8)) _ _ (by k_dflt k_is), rfl, _, rfl⟩
      case hlL2 =>
        show (194 : Nat) ≠ _
        have h194 := Heap.lt_size (hK 194 _ (by k_dflt k_is))
        rename s.heap.objs.size ≤ _ => hL9
        exact Nat.ne_of_lt (Nat.lt_of_lt_of_le h194 hL9)
      case hln2 =>
        intro p hp
        rw [how p hp]
        have h194 := Heap.lt_size (hK 194 _ (by k_dflt k_is))
        rename Keep s.heap _ => K9
        exact (Nat.ne_of_lt (Heap.lt_size (K9 _ _ (hK 194 _ (by k_dflt k_is))))).symm
      case hE2 => passes_own
      case turn2 =>
        rintro i2 v2 m₂ nx2 h2 tk2 g2 own2 hv hoff2 hnx2 how2 ⟨rfl, rfl, rfl, u2, hm⟩ F₂ N₂
        have F₃ := Fr.know F₂ hm
        clear F8 N8 F₂
        obtain rfl : Value.ref 188 = v2 := Option.some.inj hv
        k_steps
        refine GPost.brk ?_
        k_steps
        rename Fr _ _ _ _ => F7
        rename News _ _ _ _ => N7
        refine GPost.fin [] F7 ?_ (fun _ hp => nomatch hp) ⟨rfl, rfl, ?_⟩
        · exact fun p hp => N7 p (List.mem_append_left _ hp)
        · intro j c' hj' hc'
          rcases Nat.lt_or_eq_of_le (Nat.le_of_lt_succ hj') with h1 | h1
          · exact hj j c' h1 hc'
          · subst h1
            rw [hc] at hc'
            cases hc'
            omega
      case done2 =>
        rintro m₂ nx2 h2 tk2 g2 hnx2 ⟨_, _, h60, _⟩
        exact absurd h60 (by decide)
    · subst hc0
      k_steps
      rename Fr _ _ _ _ => F8
      rename News _ _ _ _ => N8
      have how8 := how
      refine' glist (l := 194) (items := #[.ref 188, .ref 189, .ref 190, .ref 191, .ref 192, .ref 193]) (fun i m nx g => g = s.gens ∧ nx = own ∧ True ∧ ∃ u, m (Str.ofString "codepoint") = some (.int 20013 u)) ?hl2 ?hlL2 ?hln2 rfl F8 N8 ⟨rfl, rfl, trivial, _, rfl⟩ ?hE2 ?turn2 ?done2
      case hl2 => exact ⟨_, (Frag.In.keeps hK (Fr.keep F8)) _ _ (by k_dflt k_is), rfl, _, rfl⟩
      case hlL2 =>
        show (194 : Nat) ≠ _
        have h194 := Heap.lt_size (hK 194 _ (by k_dflt k_is))
        rename s.heap.objs.size ≤ _ => hL9
        exact Nat.ne_of_lt (Nat.lt_of_lt_of_le h194 hL9)
      case hln2 =>
        intro p hp
        rw [how p hp]
        have h194 := Heap.lt_size (hK 194 _ (by k_dflt k_is))
        rename Keep s.heap _ => K9
        exact (Nat.ne_of_lt (Heap.lt_size (K9 _ _ (hK 194 _ (by k_dflt k_is))))).symm
      case hE2 => passes_own
      case turn2 =>
        rintro i2 v2 m₂ nx2 h2 tk2 g2 own2 hv hoff2 hnx2 how2 ⟨rfl, rfl, _, u2, hm⟩ F₂ N₂
        have F₃ := Fr.know F₂ hm
        clear F8 N8 F₂
        have hi6 : i2 < 6 := (Array.getElem?_eq_some_iff.mp hv).1
        rcases i2 with _ | _ | _ | _ | _ | _ | i2
        · obtain rfl : Value.ref 188 = v2 := Option.some.inj hv
          k_steps
          rename Fr _ _ _ _ => F7
          rename News _ _ _ _ => N7
          exact GPost.fin _ F7 N7 hnx2 ⟨rfl, rfl, trivial, _, rfl⟩
        · obtain rfl : Value.ref 189 = v2 := Option.some.inj hv
          k_steps
          rename Fr _ _ _ _ => F7
          rename News _ _ _ _ => N7
          exact GPost.fin _ F7 N7 hnx2 ⟨rfl, rfl, trivial, _, rfl⟩
        · obtain rfl : Value.ref 190 = v2 := Option.some.inj hv
          k_steps
          rename Fr _ _ _ _ => F7
          rename News _ _ _ _ => N7
          exact GPost.fin _ F7 N7 hnx2 ⟨rfl, rfl, trivial, _, rfl⟩
        · obtain rfl : Value.ref 191 = v2 := Option.some.inj hv
          k_steps
          rename Fr _ _ _ _ => F7
          rename News _ _ _ _ => N7
          exact GPost.fin _ F7 N7 hnx2 ⟨rfl, rfl, trivial, _, rfl⟩
        · obtain rfl : Value.ref 192 = v2 := Option.some.inj hv
          k_steps
          rename Fr _ _ _ _ => F7
          rename News _ _ _ _ => N7
          exact GPost.fin _ F7 N7 hnx2 ⟨rfl, rfl, trivial, _, rfl⟩
        · obtain rfl : Value.ref 193 = v2 := Option.some.inj hv
          k_steps
          rename Fr _ _ _ _ => F7
          rename News _ _ _ _ => N7
          exact GPost.fin _ F7 N7 hnx2 ⟨rfl, rfl, trivial, _, rfl⟩
        · exfalso; omega
      case done2 =>
        rintro m₂ nx2 h2 tk2 g2 hnx2 ⟨rfl, rfl, _, _⟩ F₂ N₂
        clear F8 N8
        k_steps
        dsimp only
        refine GPost.ret ?_
        dsimp only
        refine hret _ _ _ F₂.keep ?_
        have : narrow x = false := by
          unfold narrow
          refine List.all_eq_false.mpr ⟨20013, Array.mem_toList_iff.mpr (Array.mem_of_getElem? hc), by decide⟩
        rw [this]
  case done =>
    rintro m₁ nx h tk g ⟨rfl, rfl, hj⟩ F₁ N₁
    clear F9 N9
    k_steps
    refine hret _ _ _ F₁.keep ?_
    have : narrow x = true := by
      unfold narrow
      refine List.all_eq_true.mpr fun c hc => ?_
      obtain ⟨j, hj1, hj2⟩ := List.getElem_of_mem hc
      have hjs : j < x.cps.size := by simpa using hj1
      have := hj j c hjs (by rw [← hj2]; simp)
      simpa using this
    rw [this]

end Mine
end
section
open PySem PySem.W PySem.W.X PySem.Calls PyProof.Rows
namespace Mine
/-- the codes' table of `_cell_len`: the one object that the program writes anew -/
def TabOk (h : Heap) : Prop := (∃ ps, h.IsCode 231 227 ps ∧ h.TableAt 231 227 ps) ∧ ∃ ob, h.get? 4 = some ob ∧ ob.cls = .type "module" ∧ ob.dict = some builtinsNs ∧ ob.data = .plain
abbrev KeepT (h h' : Heap) : Prop := ∀ b o, b ≠ 227 → h.get? b = some o → h'.get? b = some o
abbrev h0T (h : Heap) : Heap := hideAll h [227]
theorem KeepT.of {h h' : Heap} (k : Keep h h') : KeepT h h' := fun b o _ e => k b o e
theorem KeepT.trans {a b c : Heap} (x : KeepT a b) (y : KeepT b c) : KeepT a c := fun p o n e => y p o n (x p o n e)
theorem TabOk.keeps {h h' : Heap} (x : TabOk h) (k : Keep h h') : TabOk h' := let ⟨⟨ps, a, b⟩, ob, c, d⟩ := x; ⟨⟨ps, a.keeps k, b.keeps k⟩, ob, k _ _ c, d⟩
theorem h0T_ne {h : Heap} {b : Addr} {o : Obj} (e : (h0T h).get? b = some o) : b ≠ 227 := fun q => by
  have : (h0T h).get? b = none := hideAll_none [227] (by rw [q]; exact .head _)
  rw [this] at e; cases e
theorem h0T_get {h : Heap} {b : Addr} {o : Obj} (n : b ≠ 227) (e : h.get? b = some o) : (h0T h).get? b = some o := hideAll_get [227] e fun m => n (List.mem_singleton.mp m)
theorem h0T_keep (h : Heap) : Keep (h0T h) h := fun _ _ e => of_hideAll [227] e
theorem h0T_of {h h' : Heap} (k : KeepT h h') : Keep (h0T h) h' := fun b o e => k b o (h0T_ne e) (of_hideAll [227] e)
theorem keepT_of {h h' : Heap} (k : Keep (h0T h) h') : KeepT h h' := fun b o n e => k b o (h0T_get n e)
theorem in_h0T {w : World} {h : Heap} (X : (hd.heap_39 w.params).In h) : (hd.heap_39 w.params).In (h0T h) := by
  intro a o e
  refine h0T_get (fun q => ?_) (X a o e)
  subst q
  have : (hd.heap_39 w.params).lookup 227 = none := by kernel_rfl
  rw [this] at e; cases e
theorem top_h0T {mg mb : Str → Option Value} {h : Heap} (T : TopRead hd.view_39 LP mg mb h) : TopRead hd.view_39 LP mg mb (h0T h) where
  g := T.g.at' fun o e => h0T_get (by decide) e
  b := T.b.at' fun o e => h0T_get (by decide) e
  nolimit := let ⟨mc, a, b⟩ := T.nolimit; ⟨mc, a.at' fun o e => h0T_get (by decide) e, b⟩
  builtins := T.builtins
  free := T.free
theorem frT {h₀ h h' : Heap} {L : Addr} {m : Str → Option Value} (hn : h₀.get? 227 = none) (hL : L ≠ 227) (F : Fr h₀ L h m) (k : KeepT h h') : Fr h₀ L h' m :=
  ⟨F.ns.at' fun o e => k _ o hL e, fun b o e => k b o (fun q => by rw [q, hn] at e; cases e) (F.keep b o e), F.above⟩
theorem newsT {h₀ h h' : Heap} {L : Addr} {nx : List (Addr × Obj)} (off : ∀ p ∈ nx, p.1 ≠ 227) (N : News h₀ L h nx) (k : KeepT h h') : News h₀ L h' nx :=
  fun p hp => ⟨k _ _ (off p hp) (N p hp).1, (N p hp).2⟩
/-- an object that is no codes' table -/
def NoTab (o : Obj) : Prop := o.cls ≠ .none ∨ ∀ vs, o.data ≠ .fields vs
theorem offT {h₀ h : Heap} {L : Addr} {nx : List (Addr × Obj)} (N : News h₀ L h nx) (T : TabOk h) (hc : ∀ p ∈ nx, NoTab p.2) : ∀ p ∈ nx, p.1 ≠ 227 := by
  intro p hp e
  obtain ⟨⟨ps, _, _, t⟩, _⟩ := T
  have := (N p hp).1
  rw [e, t] at this
  have e2 : p.2 = _ := (Option.some.inj this).symm
  rcases hc p hp with q | q
  · exact q (by rw [e2])
  · exact q ps (by rw [e2])
theorem NoTab.nil : ∀ p ∈ ([] : List (Addr × Obj)), NoTab p.2 := fun _ hp => nomatch hp
theorem NoTab.cons {a : Addr} {o : Obj} {l : List (Addr × Obj)} (h : NoTab o) (t : ∀ p ∈ l, NoTab p.2) : ∀ p ∈ (a, o) :: l, NoTab p.2 := fun p hp => by
  rcases List.mem_cons.mp hp with rfl | hp
  · exact h
  · exact t p hp
theorem NoTab.append {l r : List (Addr × Obj)} (h : ∀ p ∈ l, NoTab p.2) (t : ∀ p ∈ r, NoTab p.2) : ∀ p ∈ l ++ r, NoTab p.2 := fun p hp => (List.mem_append.mp hp).elim (h p) (t p)
theorem gcode {M : Model} {A : Around} {E : Value → Shared → Prop} {s : Shared} {env : Env} {pos : Pos} {q : Str} {scope : Scope} {Q : Value → Shared → Prop} (hc : env.code = .ref 231) (T : TabOk s.heap)
    (hQ : ∀ code h' tk, KeepT s.heap h' → s.heap.objs.size ≤ h'.objs.size → TabOk h' → Q code { s with heap := h', toks := tk }) : wpAny M A (genexprCode env pos q scope) Q E s := by
  obtain ⟨⟨ps, a, b⟩, ob, o1, o2⟩ := T
  cases hf : codeAmong pos ps.toList with
  | some c => exact wpAny_genexprCode_hit hc a hf (hQ c s.heap s.toks (fun _ _ _ e => e) (Nat.le_refl _) ⟨⟨ps, a, b⟩, ob, o1, o2⟩)
  | none => exact wpAny_genexprCodeX hc a b hf fun c' h' tk k h1 h2 h3 _ h4 _ => hQ _ h' tk (fun b o n e => k b o n e) (Nat.le_trans h1 (Nat.le_of_lt h2)) ⟨⟨_, h3, h4⟩, ob, k _ _ (by decide) o1, o2⟩
/-- a call that may make generators and write the codes' table of `_cell_len` -/
abbrev PX (w : World) (mg mb : Str → Option Value) (nd : Nat) (f : Addr) (args : List Value) (kw : List (Str × Value)) (pre : Heap → Prop) (R : Heap → Value → Prop) : Prop :=
  ∀ (dp : Nat) (fr : Option (List Env)) (gd : Option (List Code)) (un : Nat) (s : Shared) (Q E : Value → Shared → Prop),
    (hd.heap_39 w.params).In s.heap → TopRead hd.view_39 LP mg mb s.heap → TabOk s.heap → dp + nd < 900 → un + 20 * nd < 9000 → pre s.heap → AllBare s.gens →
    (∀ v h' tk' g', KeepT s.heap h' → TabOk h' → GX s.gens g' → R h' v → Q v { heap := h', gens := g', drawn := s.drawn, toks := tk', os := s.os }) →
    wpAny (model PySem.Challenge.rw_ey0021_01.row.prog w) (AA dp fr gd un) (call (.ref f) args kw) Q E s
theorem L_ne {w : World} {h₀ h : Heap} {L : Addr} {m : Str → Option Value} (X : (hd.heap_39 w.params).In h₀) (F : Fr h₀ L h m) : L ≠ 227 := by
  have e : ((hd.heap_39 w.params).lookup 314).isSome = true := by kernel_rfl
  obtain ⟨o, ho⟩ := Option.isSome_iff_exists.mp e
  have h1 : 314 < h₀.objs.size := Heap.lt_size (X 314 o ho)
  have h2 : h₀.objs.size ≤ L := F.above
  exact Nat.ne_of_gt (Nat.lt_of_lt_of_le (Nat.lt_trans (by decide : 227 < 314) h1) h2)
end Mine
end
section
open PySem PySem.W PySem.W.X PySem.Calls PyProof.Rows
namespace Mine
theorem is_fn {K : Frag} {f : Addr} (e : (match K.lookup f with | some ⟨_, _, .func _, _⟩ => true | _ => false) = true) : ∃ o fd, K.lookup f = some o ∧ o.data = .func fd := by
  split at e
  · rename_i h; exact ⟨_, _, h, rfl⟩
  · cases e
theorem GX.push {g : Array GenState} {x : GenState} (hb : x.bare = true) : GX g (g.push x) :=
  ⟨fun i v e => by
    have hlt : i < g.size := by
      rcases Nat.lt_or_ge i g.size with h | h
      · exact h
      · rw [Array.getElem?_eq_none h] at e; cases e
    rw [Array.getElem?_push, if_neg (Nat.ne_of_lt hlt)]; exact e, fun h => AllBare.push h hb⟩
theorem GX.only {g a b : Array GenState} {k : Nat} (hk : g.size ≤ k) (x : GX g a) (m : GenOnlyQ k a b) : GX g b :=
  ⟨fun i v e => by
    have hlt : i < g.size := by
      rcases Nat.lt_or_ge i g.size with h | h
      · exact h
      · rw [Array.getElem?_eq_none h] at e; cases e
    rcases m with rfl | ⟨⟨_, h⟩, _⟩
    · exact x.old i v e
    · rw [h i (by omega)]; exact x.old i v e, fun h => AllBare.moved (x.bare h) m⟩
theorem genexp_text {w : World} {A : Around} {E : Value → Shared → Prop} {Q : Value → Shared → Prop} {s : Shared} {env : Env} {elt iter : Expr} {y : Str} {py : Pos} {scope : Scope} {cl : List (Str × Addr)} {pos : Pos} {x : Str} {t : Tok} (val : Nat → Int)
    {mg mb : Str → Option Value} (X : (hd.heap_39 w.params).In s.heap) (TT : TopRead hd.view_39 LP mg mb s.heap) (T : TabOk s.heap) (hc : env.code = .ref 231) (hg : env.globals = 3) (hb : env.builtins = 0)
    (hh : A.handled = none) (hco : scope.isCoroutine = false) (hclos : closureFor scope env = pure cl) (hcell : ∀ y ∈ scope.names, y.2 ≠ .cell) (h0 : scope.names.lookup (".0" : Str) = some NameKind.local)
    (hx : scope.names.lookup y = some .local) (hkind : scope.kind = .function) (hroom : A.depth < recursionLimit)
    (hiter : ∀ Q' : Value → Shared → Prop, Q' (.str x t) s → wpAny (model PySem.Challenge.rw_ey0021_01.row.prog w) A (eval iter env) Q' E s)
    (hs : ∀ x, genFold iter env x = pure x)
    (helt : ∀ (C : Addr) (code : Value) (A' : Around) E' i c u (s₂ : Shared) m₂, A'.handled = none → A'.depth ≤ A.depth + 1 → A'.units ≤ A.units + 8 → x.cps[i]? = some c → s.heap.objs.size ≤ C → s₂.heap.Ns C m₂ → m₂ y = some (.str ⟨#[c]⟩ u) → KeepT s.heap s₂.heap →
      wpAny (model PySem.Challenge.rw_ey0021_01.row.prog w) A' (eval elt (genEnv scope cl C code 0 env)) (fun v s₃ => (∃ t, v = .int (val i) t) ∧ Keeps s₂ s₃) E' s₂)
    (hQ : ∀ (a : Addr) (s' : Shared) fp wr g St, WalksS PySem.Challenge.rw_ey0021_01.row.prog w A.in1 a fp wr (GenOnlyQ g) x.cps.size (fun j v => ∃ t, v = .int (val j) t) St → St 0 s' → (∀ b ∈ fp, b < s'.heap.objs.size) → (∀ b ∈ wr, s.heap.objs.size ≤ b) → s.gens.size ≤ g →
      KeepT s.heap s'.heap → TabOk s'.heap → GX s.gens s'.gens → s'.drawn = s.drawn → s'.os = s.os → Q (.ref a) s') :
    wpAny (model PySem.Challenge.rw_ey0021_01.row.prog w) A (eval (.GeneratorExp elt [⟨.Name y py, iter, [], 0⟩] scope pos) env) Q E s := by
  have hl := TT.nolimit
  refine wpAny_GeneratorExp_walksQD hh hco hclos hcell h0 hx hkind hroom (hiter _ ?_) hs
  refine wpAny_pyIter_str fun o St hW hst => ⟨hl.keeps fun b o e => Heap.get?_push_of_some _ e, ?_⟩
  have T₂ : TabOk (s.heap.push o) := T.keeps fun b o e => Heap.get?_push_of_some _ e
  refine gcode hc T₂ fun code h' tk k hsz T₃ => ?_
  have k2 : KeepT s.heap h' := KeepT.trans (fun b o _ e => Heap.get?_push_of_some _ e) k
  have X₃ : (hd.heap_39 w.params).In h' := (in_h0T X).keeps (h0T_of k2)
  rw [hg, hb]
  obtain ⟨_, ob, o1, o2, o3, o4⟩ := id T₃
  refine wpAny_builtinsFor (bm := 4) (o := ob) (TT.g.at' fun o e => k2 _ o (by decide) e) (mg_of X TT.g (by kernel_rfl)) (by decide) o1 o2 o3 o4 ?_
  have hl₃ : h'.NoLimit := let ⟨mc, a, b⟩ := hl; ⟨mc, a.at' fun o e => k2 _ o (by decide) e, b⟩
  have hsz' : s.heap.objs.size < h'.objs.size := Nat.lt_of_lt_of_le (by rw [Heap.size_push]; exact Nat.lt_succ_self _) hsz
  have hpass : passing (fun _ => true) x.cps.size 0 = List.range x.cps.size := by
    unfold passing
    simp
  refine ⟨s.heap.objs.size, [s.heap.objs.size], [s.heap.objs.size], x.cps.size, SignAt x, St, fun _ => true, fun j v => ∃ t, v = .int (val j) t, rfl, hW, ?_, ?_, hl₃, ?_, ?_, ?_⟩
  · refine (hW A hh).frame _ _ _ hst fun b hb o' e => k b o' (fun q => ?_) e
    rw [List.mem_singleton.mp hb] at q
    obtain ⟨⟨ps, _, _, tt⟩, _⟩ := T
    exact Nat.lt_irrefl _ (q ▸ Heap.lt_size tt)
  · intro b hb
    rw [List.mem_singleton.mp hb]
    exact hsz'
  · intro hm
    have h1 : cStatics < s.heap.objs.size := let ⟨_, hn, _⟩ := hl; hn.lt
    exact absurd h1 ((List.mem_singleton.mp hm) ▸ Nat.lt_irrefl _)
  · intro href hk
    constructor
    · intro A' E' i v s₂ m₂ hA _ _ hP hn hm _
      exact wpAny_pure ⟨rfl, ⟨_, _, rfl, fun _ _ e => e⟩⟩
    · intro A' E' i v s₂ m₂ hA hD hU hP _ hn hm hkp
      obtain ⟨c, u, hc', rfl⟩ := hP
      refine helt h'.objs.size code A' E' i c u s₂ m₂ hA hD hU hc' (Nat.le_of_lt hsz') hn hm fun b o' hb e => ?_
      have hb1 := k2 b o' hb e
      exact hkp b (List.mem_range.mpr (Heap.lt_size hb1)) (fun hm => absurd (Heap.lt_size e) ((List.mem_singleton.mp hm) ▸ Nat.lt_irrefl _)) o' (hk _ _ hb1)
  · intro a h₅ tk₅ gs hbare hag hsz₅ hk₅ W hat
    rw [hpass, List.length_range] at W
    have W2 := W.in4_1
    refine hQ a _ _ _ _ _ ⟨W2.sub, W2.grefl, W2.gtrans, W2.frame, fun i s Q E hi st h => W2.item i s Q E hi st fun v s' hv => h v s' ?_, W2.done, W2.self⟩ hat ?_ ?_ (Nat.le_refl _) (KeepT.trans k2 (KeepT.of hk₅)) (T₃.keeps hk₅) (GX.push hbare) rfl rfl
    · obtain ⟨j, hj, hv⟩ := hv
      have : j = i := by
        rw [List.getElem?_range hi] at hj
        exact (Option.some.inj hj).symm
      exact this ▸ hv
    · intro b hb
      show b < h₅.objs.size
      have hag' : h'.objs.size < a := hag
      have hs5 : h₅.objs.size = a + 1 := hsz₅
      have hbb : b = a ∨ b = h'.objs.size ∨ b < h'.objs.size := by
        rcases List.mem_cons.mp hb with e | hb
        · exact .inl e
        · rcases List.mem_cons.mp hb with e | hb
          · exact .inr (.inl e)
          · exact .inr (.inr (List.mem_range.mp hb))
      rw [hs5]
      rcases hbb with e | e | e
      · rw [e]; exact Nat.lt_succ_self _
      · rw [e]; exact Nat.lt_succ_of_lt hag'
      · exact Nat.lt_succ_of_lt (Nat.lt_trans e hag')
    · intro b hb
      rcases List.mem_cons.mp hb with rfl | hb
      · exact Nat.le_of_lt hsz'
      · rw [List.mem_singleton.mp hb]
        exact Nat.le_refl _
end Mine
end
section
open PySem PySem.W PySem.W.X PySem.Calls PyProof.Rows
namespace Mine
local macro_rules | `(tactic| k_room) => `(tactic| ((try simp only [depth_under_make, depth_under_kw, depth_in1, depth_deeper, depth_caller]); (simp only [recursionLimit] at *); omega))
local macro_rules | `(tactic| cell_enter) => `(tactic| first
  | (refine' pEnter [227] ?k1 ?k2 ?k6 ?k7 ?k8 ?k9 ?kB ?_ ?c2 ?c3 ?c4 ?c5; (case k1 => k_asm); (case k2 => exact TopRead.nolimit (by assumption)); (case k6 => k_is); (case k7 => k_is); (case k8 => k_room); (case k9 => first | exact BindsTo.of_eq rfl | exact binds_K (by k_in) rfl (by k_is) rfl rfl rfl | fail "no rule for these arguments"); (case c5 => decide); (case kB => exact locs rfl); (case c2 => exact rfl); (case c3 => exact rfl); (case c4 => exact rfl); k_whole; intro h₁ L₁ hL₁ F₁ K₁; (have N₁ := newsNil F₁); (try dsimp only); (try k_fold))
  | (refine' pEnterC [227] ?k1 ?k2 ?k6 ?k7 ?k8 ?k9 ?kB ?kD ?_ ?c2 ?c3 ?c4; (case k1 => k_asm); (case k2 => exact TopRead.nolimit (by assumption)); (case k6 => k_is); (case k7 => k_is); (case k8 => k_room); (case k9 => first | exact BindsTo.of_eq rfl | exact binds_K (by k_in) rfl (by k_is) rfl rfl rfl | fail "no rule for these arguments"); (case kB => exact rfl); (case kD => decide +kernel); (case c2 => exact rfl); (case c3 => exact rfl); (case c4 => exact rfl); k_whole; intro h₁ L₁ tk₁ cells₁ hL₁ F₁ N₁ Y₁ K₁ C₁; k_cells Y₁; (try simp only [List.cons_append, List.nil_append] at N₁); (try dsimp only); (try k_fold)))

local macro_rules | `(tactic| walk_at "call ref") => `(tactic| (k_here; (with_reducible show wpAny _ _ (call (Value.ref 201) [Value.str _ _]) _ _ _); (rename Fr _ _ _ _ => F9); (rename News _ _ _ _ => N9); (rename TopRead _ _ _ _ _ => T9); (refine' c_single _ _ _ _ _ _ _ _ _ _ _ _ (Frag.In.keeps ?X (Fr.keep F9)) (TopRead.keeps T9 (Fr.keep F9)) ?d ?u ?p ?_; (case X => assumption); (case d => (try simp only [depth_deeper]); omega); (case u => (try simp only [units_deeper]); omega); (case p => assumption)); (intro v9 h9 tk9 K9 R9); (have F9' := Fr.keeps F9 K9); (have N9' := News.grown N9 K9); clear F9 N9; (rename narrow _ = _ => hn9); (rw [hn9] at R9); (subst R9); (try dsimp only)))
local macro_rules | `(tactic| walk_at "call ref") => `(tactic| (k_here; (with_reducible show wpAny _ _ (call (Value.ref 209) [Value.str _ _, Value.str _ _]) _ _ _); (rename Fr _ _ _ _ => F9); (rename News _ _ _ _ => N9); (rename TopRead _ _ _ _ _ => T9); (refine' c_gccs _ _ _ _ _ _ _ _ _ _ _ _ _ (Frag.In.keeps ?X (Fr.keep F9)) (TopRead.keeps T9 (Fr.keep F9)) ?d ?u ?p ?_; (case X => assumption); (case d => (try simp only [depth_deeper]); omega); (case u => (try simp only [units_deeper]); omega); (case p => assumption)); (intro v9 h9 tk9 K9 R9); (have F9' := Fr.keeps F9 K9); (have N9' := News.grown N9 K9); clear F9 N9; (obtain ⟨t8, e8⟩ := R9); (subst e8); (try dsimp only)))
theorem no_occ {x : Str} (h : okx x) (c : Nat) (n : ¬ okc c) : (Builtin.Str.occurrences x ⟨#[c]⟩ 0 x.length 1).isEmpty = true := by
  have := StrLaws.found_one x c
  have e : decide (c ∈ x.cps.toList) = false := decide_eq_false fun m => n (h c m)
  rw [e] at this
  simpa using this
theorem size_narrow {x : Str} (h : narrow x = true) : sizeL x.cps.toList = (x.length : Int) := by
  have h := List.all_eq_true.mp h
  have : ∀ l : List Nat, (∀ c ∈ l, (c != 20013) = true) → sizeL l = (l.length : Int) := by
    intro l
    induction l with
    | nil => intro _; rfl
    | cons c l ih =>
      intro h
      have h1 := h c (.head _)
      have h2 := ih fun d hd => h d (.tail _ hd)
      unfold sizeL at h2 ⊢
      rw [List.map_cons, List.sum_cons, h2]
      have h3 : c ≠ 20013 := by simpa using h1
      have : wd c = 1 := by rw [wd, if_neg h3]
      rw [this, List.length_cons]; omega
  rw [this _ h]
  simp [Str.length]
theorem c_celllen_ (w : World) (mg mb) (x : Str) (t u : Tok) : PX w mg mb 24 232 [.str x t, .str (Str.ofString "auto") u] [] (fun _ => okx x ∧ x.length < 500) (fun _ v => ∃ t, v = .int (sizeL x.cps.toList) t) := by
  unfold PX
  k_fill
  intro dp fr gd un s Q E hK0 hT0 hTab hdp hun hpre hg hret
  have G0 := GX.refl s.gens
  refine wpAny_call ?_
  k_dflt cell_enter
  have hK : (hd.heap_39 w.params).In (hideAll s.heap [227]) := in_h0T hK0
  have hT : TopRead hd.view_39 LP mg mb (hideAll s.heap [227]) := top_h0T hT0
  have hz : (hideAll s.heap [227]).get? 227 = none := hideAll_none [227] (.head _)
  rename Keep s.heap _ => K9
  have hTab1 := TabOk.keeps hTab K9
  clear hK0 hT0 hTab K9
  obtain ⟨hok, hlen⟩ := hpre
  have e1 : (Builtin.Str.occurrences x (Str.ofString "\u200d") 0 x.length 1).isEmpty = true := no_occ hok 8205 (by unfold okc; omega)
  have e2 : (Builtin.Str.occurrences x (Str.ofString "\ufe0f") 0 x.length 1).isEmpty = true := no_occ hok 65039 (by unfold okc; omega)
  cases hn : narrow x
  · k_steps
    rename Fr _ _ _ _ => F9
    rename News _ _ _ _ => N9
    rename TopRead _ _ _ _ _ => T9
    rename Frag.In _ _ => X9
    rename TabOk _ => t9
    rename AllBare _ => B9
    rename GX _ _ => G9
    rename Heap.get? _ 227 = none => z9
    rename Keep _ _ => K8
    have t8 := TabOk.keeps t9 K8
    refine genexp_text (x := x) (t := t) (fun j => (x.cps.toList.map wd).getD j 0) (X9.keeps F9.keep) (T9.keeps F9.keep) t8 rfl rfl rfl rfl rfl (by exact rfl) (by decide) rfl rfl rfl ?hroom ?hiter (fun _ => rfl) ?helt ?hQ
    case hroom => k_room
    case hiter =>
      intro Q' hq
      k_steps
      exact hq
    case helt =>
      intro C code A' E' i c u2 s₂ m₂ hA hD hU hc hC hn2 hm hkp
      obtain ⟨_, dA, fA, gA, uA⟩ := A'
      cases hA
      have hD' : dA ≤ dp + 10 := Nat.le_trans hD (by simp only [depth_deeper]; omega)
      have hU' : uA ≤ un + 40 := Nat.le_trans hU (by simp only [units_deeper]; omega)
      have hlt := F9.ns.lt
      rename Obj.data _ = _ => hdat
      have o9 := offT N9 t8 (NoTab.cons (.inr fun vs e => by rw [hdat] at e; cases e) NoTab.nil)
      have F8 : Fr (hideAll s.heap [227]) C s₂.heap m₂ := ⟨hn2, fun b o e => hkp b o (h0T_ne e) (F9.keep b o e), Nat.le_trans F9.above (Nat.le_trans (Nat.le_of_lt hlt) hC)⟩
      have N8 := newsT o9 N9 hkp
      have hok1 : okc c := hok c (Array.mem_toList_iff.mpr (Array.mem_of_getElem? hc))
      have e209 := is_fn (K := hd.heap_39 w.params) (f := 209) (by kernel_rfl)
      obtain ⟨o209, fd209, h209, d209⟩ := e209
      have XX := X9.keeps F8.keep
      refine Call_ ?_
      refine nameG_K F8 X9 T9 (v := .ref 209) (by k_dflt k_is) ?_ rfl rfl rfl (by decide)
      refine callWith_def (f := 209) d209 ?_
      refine args_cons ?_
      refine ldVarG F8 hm ?_
      refine args_cons ?_
      refine ldFreeG rfl (v := .str (Str.ofString "auto") u) ⟨_, (N8 _ (.head _)).1, hdat⟩ ?_
      refine args_nil ⟨XX _ _ h209, ?_⟩
      refine c_gccs w mg mb c u2 u dA fA gA uA s₂ _ _ XX (T9.keeps F8.keep) (by omega) (by omega) hok1 ?_
      rintro v h' tk' kk ⟨t3, rfl⟩
      refine ⟨⟨t3, ?_⟩, h', tk', rfl, kk⟩
      have hci : x.cps.toList[i]? = some c := by rw [Array.getElem?_toList]; exact hc
      rw [List.getD_eq_getElem?_getD, List.getElem?_map, hci]
      rfl
    case hQ =>
      intro a s' fp wr g St W hst hfp hwr hg2 k2 t2 gx2 hd hos
      obtain ⟨h', g', d', tk', os'⟩ := s'
      cases hd
      cases hos
      have F8 := frT z9 (L_ne X9 F9) F9 k2
      have hlt := F9.ns.lt
      have K0 := F9.keep
      clear F9
      k_steps
      refine call_sum_walkAnyS (W.self 0 _ _ _ hst ⟨a, fp, wr, _, _, _, St, fun j => (x.cps.toList.map wd).getD j 0, rfl, W, hst, hfp, fun i v h => h, fun s2 tv2 hm => ?_⟩)
      obtain ⟨h2, g2, d2, tk2, os2⟩ := s2
      have hd2 := hm.drawn
      have hos2 := hm.os
      have hg2' := hm.gens
      have hh2 := hm.heap
      cases hd2
      cases hos2
      have hsum : preSum (fun j => (x.cps.toList.map wd).getD j 0) x.cps.size = sizeL x.cps.toList := by
        rw [preSum_getD, List.take_of_length_le (by simp)]; rfl
      rw [hsum]
      have kk : ∀ b o, b ≠ 227 → s.heap.get? b = some o → b ∉ wr := fun b o n e hw => by
        have h1 := hwr b hw
        have h3 := Heap.lt_size (K0 b o (h0T_get n e))
        exact Nat.lt_irrefl _ (Nat.lt_of_lt_of_le h3 h1)
      have t227 : (227 : Addr) ∉ wr := fun hw => by
        have h1 := hwr _ hw
        obtain ⟨⟨ps, _, _, tt⟩, _⟩ := t8
        exact Nat.lt_irrefl _ (Nat.lt_of_lt_of_le (Heap.lt_size tt) h1)
      have t231 : (231 : Addr) ∉ wr := fun hw => by
        have h1 := hwr _ hw
        obtain ⟨⟨ps, ⟨_, _, _, _, _, _, _, _, _, _, tt, _⟩, _⟩, _⟩ := t8
        exact Nat.lt_irrefl _ (Nat.lt_of_lt_of_le (Heap.lt_size tt) h1)
      have t4 : (4 : Addr) ∉ wr := fun hw => by
        have h1 := hwr _ hw
        obtain ⟨_, _, tt, _⟩ := t8
        exact Nat.lt_irrefl _ (Nat.lt_of_lt_of_le (Heap.lt_size tt) h1)
      refine hret _ _ _ _ (fun b o n e => hh2 b o (kk b o n e) (k2 b o n (K0 b o (h0T_get n e)))) ?_ (GX.trans G9 (GX.only hg2 gx2 hg2')) ⟨_, rfl⟩
      obtain ⟨⟨ps, ⟨o, vs, file, tf, flags, tg, inF, text, tt, op, a1, a2, a3, a4, a5, a6, a7, a8, a9⟩, ⟨⟨o', vs', b1, b2⟩, b3⟩⟩, ob, c1, c2⟩ := t2
      exact ⟨⟨ps, ⟨o, vs, file, tf, flags, tg, inF, text, tt, op, hh2 _ _ t231 a1, a2, a3, a4, a5, a6, a7, hh2 _ _ t227 a8, a9⟩, ⟨⟨o', vs', hh2 _ _ t231 b1, b2⟩, hh2 _ _ t227 b3⟩⟩, ob, hh2 _ _ t4 c1, c2⟩
  · k_steps
    rename Fr _ _ _ _ => F9
    rename News _ _ _ _ => N9
    rename TopRead _ _ _ _ _ => T9
    rename Frag.In _ _ => X9
    rename TabOk _ => t9
    rename AllBare _ => B9
    rename GX _ _ => G9
    rename Heap.get? _ 227 = none => z9
    rename Keep _ _ => K8
    rename narrow _ = _ => hn9
    exact hret _ _ _ _ (keepT_of F9.keep) (TabOk.keeps t9 K8) G9 ⟨_, by rw [size_narrow hn9]⟩

end Mine
end
section
open PySem PySem.W PySem.W.X PySem.Calls PyProof.Rows
namespace Mine
local macro_rules | `(tactic| k_room) => `(tactic| ((try simp only [depth_under_make, depth_under_kw, depth_in1, depth_deeper, depth_caller]); (simp only [recursionLimit] at *); omega))
local macro_rules | `(tactic| cell_enter) => `(tactic| first
  | (refine' pEnter [227] ?k1 ?k2 ?k6 ?k7 ?k8 ?k9 ?kB ?_ ?c2 ?c3 ?c4 ?c5; (case k1 => k_asm); (case k2 => exact TopRead.nolimit (by assumption)); (case k6 => k_is); (case k7 => k_is); (case k8 => k_room); (case k9 => first | exact BindsTo.of_eq rfl | exact binds_K (by k_in) rfl (by k_is) rfl rfl rfl | fail "no rule for these arguments"); (case c5 => decide); (case kB => exact locs rfl); (case c2 => exact rfl); (case c3 => exact rfl); (case c4 => exact rfl); k_whole; intro h₁ L₁ hL₁ F₁ K₁; (have N₁ := newsNil F₁); (try dsimp only); (try k_fold))
  | (refine' pEnterC [227] ?k1 ?k2 ?k6 ?k7 ?k8 ?k9 ?kB ?kD ?_ ?c2 ?c3 ?c4; (case k1 => k_asm); (case k2 => exact TopRead.nolimit (by assumption)); (case k6 => k_is); (case k7 => k_is); (case k8 => k_room); (case k9 => first | exact BindsTo.of_eq rfl | exact binds_K (by k_in) rfl (by k_is) rfl rfl rfl | fail "no rule for these arguments"); (case kB => exact rfl); (case kD => decide +kernel); (case c2 => exact rfl); (case c3 => exact rfl); (case c4 => exact rfl); k_whole; intro h₁ L₁ tk₁ cells₁ hL₁ F₁ N₁ Y₁ K₁ C₁; k_cells Y₁; (try simp only [List.cons_append, List.nil_append] at N₁); (try dsimp only); (try k_fold)))

local macro_rules | `(tactic| walk_at "call ref") => `(tactic| (k_here; (with_reducible show wpAny _ _ (call (Value.ref 232) [Value.str _ _, Value.str _ _]) _ _ _); (rename Fr _ _ _ _ => F9); (rename News _ _ _ _ => N9); (rename TopRead _ _ _ _ _ => T9); (rename Frag.In _ _ => X9); (rename TabOk _ => t9); (rename AllBare _ => B9); (rename GX _ _ => G8); (rename Heap.get? _ 227 = none => z9); (have o9 := offT N9 t9 (by first | exact NoTab.nil | (repeat (first | assumption | exact NoTab.nil | refine NoTab.append ?_ ?_ | refine NoTab.cons (by first | exact .inl (by simp) | assumption) ?_)))); (refine' c_celllen_ _ _ _ _ _ _ _ _ _ _ _ _ _ (Frag.In.keeps X9 (Fr.keep F9)) (TopRead.keeps T9 (Fr.keep F9)) t9 ?d ?u ?p B9 ?_; (case d => (try simp only [depth_deeper]); omega); (case u => (try simp only [units_deeper]); omega); (case p => assumption)); (intro v9 h9 tk9 g9 K9 t9' G9 R9); (have F9' := frT z9 (L_ne X9 F9) F9 K9); (have N9' := newsT o9 N9 K9); (have B9' := GX.bare G9 B9); (have G9' := GX.trans G8 G9); clear F9 N9 B9 G8 G9 t9 o9; (obtain ⟨t8, e8⟩ := R9); (subst e8); (try dsimp only)))
theorem c_cached (w : World) (mg mb) (x : Str) (t u : Tok) : PX w mg mb 28 217 [.str x t, .str (Str.ofString "auto") u] [] (fun _ => okx x ∧ x.length < 500) (fun _ v => ∃ t, v = .int (sizeL x.cps.toList) t) := by
  unfold PX
  k_fill
  intro dp fr gd un s Q E hK0 hT0 hTab hdp hun hpre hg hret
  have G0 := GX.refl s.gens
  refine wpAny_call ?_
  k_dflt cell_enter
  have hK : (hd.heap_39 w.params).In (hideAll s.heap [227]) := in_h0T hK0
  have hT : TopRead hd.view_39 LP mg mb (hideAll s.heap [227]) := top_h0T hT0
  have hz : (hideAll s.heap [227]).get? 227 = none := hideAll_none [227] (.head _)
  rename Keep s.heap _ => K9
  have hTab1 := TabOk.keeps hTab K9
  clear hK0 hT0 hTab K9
  k_steps
  rename Fr _ _ _ _ => F9
  rename News _ _ _ _ => N9
  rename TopRead _ _ _ _ _ => T9
  rename Frag.In _ _ => X9
  rename TabOk _ => t9
  rename AllBare _ => B9
  rename GX _ _ => G9
  rename Heap.get? _ 227 = none => z9
  exact hret _ _ _ _ (keepT_of F9.keep) t9 G9 ⟨_, rfl⟩
local macro_rules | `(tactic| walk_at "call ref") => `(tactic| (k_here; (with_reducible show wpAny _ _ (call (Value.ref 217) [Value.str _ _, Value.str _ _]) _ _ _); (rename Fr _ _ _ _ => F9); (rename News _ _ _ _ => N9); (rename TopRead _ _ _ _ _ => T9); (rename Frag.In _ _ => X9); (rename TabOk _ => t9); (rename AllBare _ => B9); (rename GX _ _ => G8); (rename Heap.get? _ 227 = none => z9); (have o9 := offT N9 t9 (by first | exact NoTab.nil | (repeat (first | assumption | exact NoTab.nil | refine NoTab.append ?_ ?_ | refine NoTab.cons (by first | exact .inl (by simp) | assumption) ?_)))); (refine' c_cached _ _ _ _ _ _ _ _ _ _ _ _ _ (Frag.In.keeps X9 (Fr.keep F9)) (TopRead.keeps T9 (Fr.keep F9)) t9 ?d ?u ?p B9 ?_; (case d => (try simp only [depth_deeper]); omega); (case u => (try simp only [units_deeper]); omega); (case p => assumption)); (intro v9 h9 tk9 g9 K9 t9' G9 R9); (have F9' := frT z9 (L_ne X9 F9) F9 K9); (have N9' := newsT o9 N9 K9); (have B9' := GX.bare G9 B9); (have G9' := GX.trans G8 G9); clear F9 N9 B9 G8 G9 t9 o9; (obtain ⟨t8, e8⟩ := R9); (subst e8); (try dsimp only)))
theorem c_celllen (w : World) (mg mb) (x : Str) (t : Tok) : PX w mg mb 32 225 [.str x t] [] (fun _ => okx x ∧ x.length < 500) (fun _ v => ∃ t, v = .int (sizeL x.cps.toList) t) := by
  unfold PX
  k_fill
  intro dp fr gd un s Q E hK0 hT0 hTab hdp hun hpre hg hret
  have G0 := GX.refl s.gens
  refine wpAny_call ?_
  k_dflt cell_enter
  have hK : (hd.heap_39 w.params).In (hideAll s.heap [227]) := in_h0T hK0
  have hT : TopRead hd.view_39 LP mg mb (hideAll s.heap [227]) := top_h0T hT0
  have hz : (hideAll s.heap [227]).get? 227 = none := hideAll_none [227] (.head _)
  rename Keep s.heap _ => K9
  have hTab1 := TabOk.keeps hTab K9
  clear hK0 hT0 hTab K9
  have hlen : (x.length : Int) < 512 := by have := hpre.2; omega
  k_steps
  rename Fr _ _ _ _ => F9
  rename News _ _ _ _ => N9
  rename TopRead _ _ _ _ _ => T9
  rename Frag.In _ _ => X9
  rename TabOk _ => t9
  rename AllBare _ => B9
  rename GX _ _ => G9
  rename Heap.get? _ 227 = none => z9
  exact hret _ _ _ _ (keepT_of F9.keep) t9 G9 ⟨_, rfl⟩

end Mine
end
section
open PySem PySem.W PySem.W.X PySem.Calls PyProof.Rows
namespace Mine
local macro_rules | `(tactic| k_room) => `(tactic| ((try simp only [depth_under_make, depth_under_kw, depth_in1, depth_deeper, depth_caller]); (simp only [recursionLimit] at *); omega))
local macro_rules | `(tactic| cell_enter) => `(tactic| first
  | (refine' pEnter [] ?k1 ?k2 ?k6 ?k7 ?k8 ?k9 ?kB ?_ ?c2 ?c3 ?c4 ?c5; (case k1 => k_asm); (case k2 => exact TopRead.nolimit (by assumption)); (case k6 => k_is); (case k7 => k_is); (case k8 => k_room); (case k9 => first | exact BindsTo.of_eq rfl | exact binds_K (by k_in) rfl (by k_is) rfl rfl rfl | fail "no rule for these arguments"); (case c5 => decide); (case kB => exact locs rfl); (case c2 => exact rfl); (case c3 => exact rfl); (case c4 => exact rfl); k_whole; intro h₁ L₁ hL₁ F₁ K₁; (rw [hideNil] at F₁); (have N₁ := newsNil F₁); (try dsimp only); (try k_fold))
  | (refine' pEnterC [] ?k1 ?k2 ?k6 ?k7 ?k8 ?k9 ?kB ?kD ?_ ?c2 ?c3 ?c4; (case k1 => k_asm); (case k2 => exact TopRead.nolimit (by assumption)); (case k6 => k_is); (case k7 => k_is); (case k8 => k_room); (case k9 => first | exact BindsTo.of_eq rfl | exact binds_K (by k_in) rfl (by k_is) rfl rfl rfl | fail "no rule for these arguments"); (case kB => exact rfl); (case kD => decide +kernel); (case c2 => exact rfl); (case c3 => exact rfl); (case c4 => exact rfl); k_whole; intro h₁ L₁ tk₁ cells₁ hL₁ F₁ N₁ Y₁ K₁ C₁; (rw [hideNil] at F₁ N₁); k_cells Y₁; (try simp only [List.cons_append, List.nil_append] at N₁); (try dsimp only); (try k_fold)))

theorem size_ints {ys : List Value} {x : Str} (h : CarriedAll ys ((signs x).filter (fun _ => true) |>.map fun a => if (a == Str.ofString "中") = true then PyData.int 2 else PyData.int 1)) : IntsAre ys (x.cps.toList.map wd) := by
  have e : ((signs x).filter (fun _ => true) |>.map fun a => if (a == Str.ofString "中") = true then PyData.int 2 else PyData.int 1) = (x.cps.toList.map fun c => PyData.int (wd c)) := by
    rw [List.filter_eq_self.mpr (fun _ _ => rfl)]
    unfold signs
    rw [List.map_map]
    refine List.map_congr_left fun c _ => ?_
    show (if ((⟨#[c]⟩ : Str) == Str.ofString "中") = true then PyData.int 2 else PyData.int 1) = _
    have e1 : Str.ofString "中" = ⟨#[20013]⟩ := by rfl
    rw [e1]
    unfold wd
    by_cases hc : c = 20013
    · subst hc; rfl
    · have : ((⟨#[c]⟩ : Str) == ⟨#[20013]⟩) = false := by
        refine beq_eq_false_iff_ne.mpr fun q => hc ?_
        have := congrArg (fun z : Str => z.cps.toList) q
        simpa using this
      rw [this, if_neg hc]
      rfl
  rw [e] at h
  exact h.intsOf
theorem c_lawsize (w : World) (mg mb) (x : Str) (t : Tok) : PS w mg mb 4 283 [.str x t] [] (fun _ => x.length < 500) (fun _ v => ∃ t, v = .int (sizeL x.cps.toList) t) := by
  unfold PS
  k_fill
  intro dp fr gd un s Q E hK hT hdp hun hpre hret
  refine wpAny_call ?_
  k_dflt cell_enter
  k_steps
  rename Fr _ _ _ _ => F9
  rename News _ _ _ _ => N9
  rename CarriedAll _ _ => C9
  refine LSm.sum_ints F9 N9 rfl (by assumption) (size_ints C9) fun h' tk t' F N => ?_
  exact hret _ _ _ F.keep ⟨_, rfl⟩

end Mine
end
section
open PySem PySem.W PySem.W.X PySem.Calls PyProof.Rows
namespace Mine
def lst (xs : Array Value) (n : Nat) : Obj := { cls := .type "list", data := .seq xs n }
theorem in_hide {K : Frag} {h : Heap} {a : Addr} (X : K.In h) (n : K.lookup a = none) : K.In (hideAll h [a]) := by
  intro b o e
  refine hideAll_get [a] (X b o e) (fun m => ?_)
  rw [List.mem_singleton.mp m, n] at e; cases e
theorem top_hide {mg mb : Str → Option Value} {h : Heap} {a : Addr} {o : Obj} (T : TopRead hd.view_39 LP mg mb h) (e : h.get? a = some o) (nd : ∀ es k, o.data ≠ .dict es k) : TopRead hd.view_39 LP mg mb (hideAll h [a]) := by
  have q : ∀ {N m}, h.Ns N m → (hideAll h [a]).Ns N m := fun {N m} hn => by
    obtain ⟨o', es, ep, h1, h2, r⟩ := hn
    refine ⟨o', es, ep, hideAll_get [a] h1 (fun m => ?_), h2, r⟩
    rw [List.mem_singleton.mp m, e] at h1
    cases h1
    exact nd _ _ h2
  exact ⟨q T.g, q T.b, let ⟨mc, x, y⟩ := T.nolimit; ⟨mc, q x, y⟩, T.builtins, T.free⟩
/-- one entry of the news written anew -/
theorem News.upd {h₀ h h' : Heap} {L a : Addr} {o o' : Obj} {nx : List (Addr × Obj)} {g : Obj → List (Addr × Obj)} (N : News h₀ L h nx) (U : UpdF a o nx g) (k : ∀ b x, b ≠ a → h.get? b = some x → h'.get? b = some x) (e : h'.get? a = some o') : News h₀ L h' (g o') := by
  obtain ⟨l, r, rfl, hg, h1, h2⟩ := U.split
  rw [hg]
  intro p hp
  rcases List.mem_append.mp hp with hp | hp
  · exact ⟨k _ _ (h1 p hp) (N p (List.mem_append_left _ hp)).1, (N p (List.mem_append_left _ hp)).2⟩
  · rcases List.mem_cons.mp hp with rfl | hp
    · exact ⟨e, (N (a, o) (List.mem_append_right _ (.head _))).2⟩
    · exact ⟨k _ _ (h2 p hp) (N p (List.mem_append_right _ (.tail _ hp))).1, (N p (List.mem_append_right _ (.tail _ hp))).2⟩
theorem Upd.mem {a : Addr} {o : Obj} {nx : List (Addr × Obj)} {g : Obj → List (Addr × Obj)} (U : UpdF a o nx g) : (a, o) ∈ nx := by
  obtain ⟨l, r, rfl, _⟩ := U.split
  exact List.mem_append_right _ (.head _)
theorem Fr.mut {h₀ h h' : Heap} {L a : Addr} {m : Str → Option Value} (F : Fr h₀ L h m) (ha : h₀.get? a = none) (hL : L ≠ a) (k : ∀ b x, b ≠ a → h.get? b = some x → h'.get? b = some x) : Fr h₀ L h' m :=
  ⟨F.ns.at' fun o e => k _ o hL e, fun b o e => k b o (fun q => by rw [q, ha] at e; cases e) (F.keep b o e), F.above⟩
end Mine
namespace Mine
section
variable {M : Model} {A : Around} {E : Value → Shared → Prop} {s : Shared} {K : Frag} {h₀ : Heap} {L C : Addr} {m mg mb : Str → Option Value} {scope : Scope} {cl : List (Str × Addr)} {env : Env} {p : Program} {loose : List Str} {x : Str} {pos : Pos} {v : Value} {Q : Value → Shared → Prop}
theorem comp_global (F : Fr h₀ L s.heap m) (X : K.In h₀) (T : TopRead p loose mg mb h₀) (e : nsIn K mainGlobals x = some (some v)) (h : Q v s) (hg : env.globals = mainGlobals := by rfl)
    (hk : (compEnvC scope cl C env).scope.kind = .function := by rfl) (hx : (compEnvC scope cl C env).kindOf x = some .globalImplicit := by rfl) (hd : (x == ("__debug__" : Str)) = false := by decide) :
    wpAny M A (eval (.Name x pos) (compEnvC scope cl C env)) Q E s :=
  Name_function_global hk hx (loadGlobal_global (env := compEnvC scope cl C env) (show s.heap.Ns env.globals mg from hg ▸ (T.g.keeps F.keep)) (mg_of X T.g e) h) hd
theorem comp_built (F : Fr h₀ L s.heap m) (X : K.In h₀) (T : TopRead p loose mg mb h₀) (e : nsIn K mainGlobals x = some none) (hv : bootBuiltins x = some v) (hn : x ≠ "__name__") (h : Q v s) (hg : env.globals = mainGlobals := by rfl) (hb : env.builtins = builtinsNs := by rfl)
    (hk : (compEnvC scope cl C env).scope.kind = .function := by rfl) (hx : (compEnvC scope cl C env).kindOf x = some .globalImplicit := by rfl) (hd : (x == ("__debug__" : Str)) = false := by decide) :
    wpAny M A (eval (.Name x pos) (compEnvC scope cl C env)) Q E s :=
  Name_function_global hk hx (loadGlobal_builtin (env := compEnvC scope cl C env) (show s.heap.Ns env.globals mg from hg ▸ (T.g.keeps F.keep)) (mg_none_of X T.g e) (show s.heap.Ns env.builtins mb from hb ▸ (T.b.keeps F.keep)) ((T.builtins x hn).trans hv) h) hd
end
end Mine
end
section
open PySem PySem.W PySem.W.X PySem.Calls PyProof.Rows
namespace Mine
local macro_rules | `(tactic| k_room) => `(tactic| ((try simp only [depth_under_make, depth_under_kw, depth_in1, depth_deeper, depth_caller]); (simp only [recursionLimit] at *); omega))
local macro_rules | `(tactic| cell_enter) => `(tactic| first
  | (refine' pEnter [] ?k1 ?k2 ?k6 ?k7 ?k8 ?k9 ?kB ?_ ?c2 ?c3 ?c4 ?c5; (case k1 => k_asm); (case k2 => exact TopRead.nolimit (by assumption)); (case k6 => k_is); (case k7 => k_is); (case k8 => k_room); (case k9 => first | exact BindsTo.of_eq rfl | exact binds_K (by k_in) rfl (by k_is) rfl rfl rfl | fail "no rule for these arguments"); (case c5 => decide); (case kB => exact locs rfl); (case c2 => exact rfl); (case c3 => exact rfl); (case c4 => exact rfl); k_whole; intro h₁ L₁ hL₁ F₁ K₁; (rw [hideNil] at F₁); (have N₁ := newsNil F₁); (try dsimp only); (try k_fold))
  | (refine' pEnterC [] ?k1 ?k2 ?k6 ?k7 ?k8 ?k9 ?kB ?kD ?_ ?c2 ?c3 ?c4; (case k1 => k_asm); (case k2 => exact TopRead.nolimit (by assumption)); (case k6 => k_is); (case k7 => k_is); (case k8 => k_room); (case k9 => first | exact BindsTo.of_eq rfl | exact binds_K (by k_in) rfl (by k_is) rfl rfl rfl | fail "no rule for these arguments"); (case kB => exact rfl); (case kD => decide +kernel); (case c2 => exact rfl); (case c3 => exact rfl); (case c4 => exact rfl); k_whole; intro h₁ L₁ tk₁ cells₁ hL₁ F₁ N₁ Y₁ K₁ C₁; (rw [hideNil] at F₁ N₁); k_cells Y₁; (try simp only [List.cons_append, List.nil_append] at N₁); (try dsimp only); (try k_fold)))

theorem c_draw (w : World) (mg mb) (a b : Addr) (i many : Int) (ti tm : Tok) (n : Nat) (vs : List Value) (ns : List Int) (dp : Nat) (fr : Option (List Env)) (gd : Option (List Code)) (un : Nat) (s : Shared) (Q E : Value → Shared → Prop)
    (hK : (hd.heap_39 w.params).In s.heap) (hT : TopRead hd.view_39 LP mg mb s.heap) (hdp : dp + 4 < 900) (hun : un + 80 < 9000) (hm : 0 < many) (hi : 0 ≤ i) (hns : ns.length < 100)
    (ha : s.heap.get? a = some (lst #[.ref b, .int i ti] n)) (hb : s.heap.IsList b vs.toArray) (hv : IntsAre vs ns) (hab : a ≠ b) (hka : (hd.heap_39 w.params).lookup a = none)
    (hret : ∀ r t i' t' h' tk', (∀ b x, b ≠ a → s.heap.get? b = some x → h'.get? b = some x) → h'.get? a = some (lst #[.ref b, .int i' t'] n) → 0 ≤ r → r < many → 0 ≤ i' → Q (.int r t) { heap := h', gens := s.gens, drawn := s.drawn, toks := tk', os := s.os }) :
    wpAny (model PySem.Challenge.rw_ey0021_01.row.prog w) (AA dp fr gd un) (call (.ref 273) [.ref a, .int many tm]) Q E s := by
  revert hK; k_fill; intro hK
  refine wpAny_call ?_
  k_dflt (refine' pEnter [a] ?k1 ?k2 ?k6 ?k7 ?k8 ?k9 ?kB ?_ ?c2 ?c3 ?c4 ?c5)
  case k1 => k_asm
  case k2 => exact TopRead.nolimit (by assumption)
  case k6 => k_dflt k_is
  case k7 => k_dflt k_is
  case k8 => k_room
  case k9 => k_dflt (first | exact BindsTo.of_eq rfl | exact binds_K (by k_in) rfl (by k_is) rfl rfl rfl)
  case c5 => decide
  case kB => k_dflt (exact locs rfl)
  case c2 => exact rfl
  case c3 => exact rfl
  case c4 => exact rfl
  intro h₁ L₁ hL₁ F₁ K₁
  try dsimp only
  have hK2 := in_hide hK hka
  have hT2 := top_hide hT ha (fun es k e => by cases e)
  have N₁ : News (hideAll s.heap [a]) L₁ h₁ [(a, { cls := .type "list", data := .seq #[.ref b, .int i ti] n })] := fun p hp => by
    rw [List.mem_singleton.mp hp]
    exact ⟨K₁ _ _ ha, Nat.ne_of_lt (Nat.lt_of_lt_of_le (Heap.lt_size ha) hL₁), hideAll_none [a] (.head _)⟩
  have hb2 : (hideAll s.heap [a]).IsList b vs.toArray := hb.at fun o e => hideAll_get [a] e (fun m => hab (List.mem_singleton.mp m).symm)
  clear hK hT ha hb K₁ hka
  k_steps
  · rename Fr _ _ _ _ => F9
    rename News _ _ _ _ => N9
    exact hret 0 _ i _ _ _ (fun b x n e => F9.keep b x (hideAll_get [a] e (fun m => n (List.mem_singleton.mp m)))) (N9 _ (.head _)).1 (by omega) hm hi
  · rename Fr _ _ _ _ => F9
    rename News _ _ _ _ => N9
    exact hret _ _ (i + 1) _ _ _ (fun b x n e => F9.keep b x (hideAll_get [a] e (fun m => n (List.mem_singleton.mp m)))) (N9 _ (.head _)).1 (by rw [Int.fmod_eq_emod_of_nonneg _ (by omega)]; exact Int.emod_nonneg _ (by omega)) (by rw [Int.fmod_eq_emod_of_nonneg _ (by omega)]; exact Int.emod_lt_of_pos _ hm) (by omega)

end Mine
end
section
open PySem PySem.W PySem.W.X PySem.Calls PyProof.Rows
namespace Mine
local macro_rules | `(tactic| k_room) => `(tactic| ((try simp only [depth_under_make, depth_under_kw, depth_in1, depth_deeper, depth_caller]); (simp only [recursionLimit] at *); omega))
local macro_rules | `(tactic| cell_enter) => `(tactic| first
  | (refine' pEnter [] ?k1 ?k2 ?k6 ?k7 ?k8 ?k9 ?kB ?_ ?c2 ?c3 ?c4 ?c5; (case k1 => k_asm); (case k2 => exact TopRead.nolimit (by assumption)); (case k6 => k_is); (case k7 => k_is); (case k8 => k_room); (case k9 => first | exact BindsTo.of_eq rfl | exact binds_K (by k_in) rfl (by k_is) rfl rfl rfl | fail "no rule for these arguments"); (case c5 => decide); (case kB => exact locs rfl); (case c2 => exact rfl); (case c3 => exact rfl); (case c4 => exact rfl); k_whole; intro h₁ L₁ hL₁ F₁ K₁; (rw [hideNil] at F₁); (have N₁ := newsNil F₁); (try dsimp only); (try k_fold))
  | (refine' pEnterC [] ?k1 ?k2 ?k6 ?k7 ?k8 ?k9 ?kB ?kD ?_ ?c2 ?c3 ?c4; (case k1 => k_asm); (case k2 => exact TopRead.nolimit (by assumption)); (case k6 => k_is); (case k7 => k_is); (case k8 => k_room); (case k9 => first | exact BindsTo.of_eq rfl | exact binds_K (by k_in) rfl (by k_is) rfl rfl rfl | fail "no rule for these arguments"); (case kB => exact rfl); (case kD => decide +kernel); (case c2 => exact rfl); (case c3 => exact rfl); (case c4 => exact rfl); k_whole; intro h₁ L₁ tk₁ cells₁ hL₁ F₁ N₁ Y₁ K₁ C₁; (rw [hideNil] at F₁ N₁); k_cells Y₁; (try simp only [List.cons_append, List.nil_append] at N₁); (try dsimp only); (try k_fold)))

local macro_rules | `(tactic| walk_at "eval Name") => `(tactic| (k_here; (with_reducible show wpAny _ _ (eval (Expr.Name _ _) (compEnvC _ _ _ _)) _ _ _); k_dflt (first
  | refine comp_global (by k_asm) (by k_asm) (by k_asm) (by k_is) ?_
  | refine comp_built (by k_asm) (by k_asm) (by k_asm) (by k_is) (by boot_by_name) (by decide) ?_)))
theorem c_state (w : World) (mg mb) (sl : Addr) (vs : List Value) (ns : List Int) (dp : Nat) (fr : Option (List Env)) (gd : Option (List Code)) (un : Nat) (s : Shared) (Q E : Value → Shared → Prop)
    (hK : (hd.heap_39 w.params).In s.heap) (hT : TopRead hd.view_39 LP mg mb s.heap) (hdp : dp + 4 < 900) (hun : un + 80 < 9000)
    (hb : s.heap.IsList sl vs.toArray) (hv : IntsAre vs ns) (hlen : ns.length ≤ 2 ^ 20)
    (hret : ∀ a b t n ys ms h' tk', Keep s.heap h' → h'.get? a = some (lst #[.ref b, .int 0 t] n) → h'.IsList b ys.toArray → IntsAre ys ms → ms.length ≤ 40 → a ≠ b → s.heap.get? a = none → s.heap.get? b = none → Q (.ref a) { heap := h', gens := s.gens, drawn := s.drawn, toks := tk', os := s.os }) :
    wpAny (model PySem.Challenge.rw_ey0021_01.row.prog w) (AA dp fr gd un) (call (.ref 278) [.ref sl]) Q E s := by
  revert hK; k_fill; intro hK
  refine wpAny_call ?_
  k_dflt cell_enter
  k_steps
  rename Fr _ _ _ _ => F9
  rename News _ _ _ _ => N9
  rename_i l1
  refine hret _ _ _ _ _ _ _ _ F9.keep (N9 _ (.head _)).1 ⟨_, (N9 _ (.tail _ (.head _))).1, rfl, _, rfl⟩ (by assumption) ?_ (fun e => ?_) (N9 _ (.head _)).2.2 (N9 _ (.tail _ (.head _))).2.2
  · simp only [List.length_map, List.length_take]; omega
  · have h1 := l1.1
    exact absurd e (Nat.ne_of_gt h1)

end Mine
end
section
open PySem PySem.W PySem.Calls PyProof.Rows
namespace Mine
def wcode : Array Nat := #[14, 4, 0, 1, 4294967295, 24, 9, 0, 4294967295, 13, 4, 8, 12, 0, 1, 24, 9, 1, 4294967295, 13, 4, 8, 13, 0, 1, 24, 9, 0, 4294967295, 13, 4, 8, 12, 0, 1, 1]
theorem sp_small : ∀ c, c < 127 → 33 ≤ c → Unicode.isSpace c = false := by decide +kernel
theorem sp32 : Unicode.isSpace 32 = true := by decide +kernel
theorem sp20013 : Unicode.isSpace 20013 = false := by decide +kernel
theorem sp_ok {c : Nat} (h : okc c) : Unicode.isSpace c = (c == 32) := by
  rcases h with ⟨h1, h2⟩ | rfl
  · by_cases e : c = 32
    · subst e; rw [sp32]; rfl
    · rw [sp_small c (by omega) (by omega)]; simp [e]
  · rw [sp20013]; rfl
theorem cat12 {c : Nat} (h : okc c) : Sre.category 12 c = .ok (c == 32) := by
  unfold Sre.category
  show Except.map _ (Except.ok (Unicode.isSpace c)) = _
  rw [sp_ok h]
  cases (c == 32) <;> rfl
theorem cat13 {c : Nat} (h : okc c) : Sre.category 13 c = .ok (!(c == 32)) := by
  unfold Sre.category
  show Except.map _ (Except.ok (Unicode.isSpace c)) = _
  rw [sp_ok h]
  cases (c == 32) <;> rfl
/-- what the sets take: kind 12 the blanks, kind 13 the others -/
theorem accepts_sp9 (c : Nat) (seen : Sre.Seen) (h : okc c) : ∃ seen', Sre.accepts wcode 9 c seen = .ok (c == 32, seen') := by
  show ∃ seen', Sre.inSet wcode c (35 + 1) 11 true seen = _
  rw [Sre.inSet]
  show ∃ seen', (Sre.category 12 c >>= _) = _
  rw [cat12 h]
  cases (c == 32)
  · exact ⟨_, rfl⟩
  · exact ⟨_, rfl⟩
theorem accepts_sp29 (c : Nat) (seen : Sre.Seen) (h : okc c) : ∃ seen', Sre.accepts wcode 29 c seen = .ok (c == 32, seen') := by
  show ∃ seen', Sre.inSet wcode c (35 + 1) 31 true seen = _
  rw [Sre.inSet]
  show ∃ seen', (Sre.category 12 c >>= _) = _
  rw [cat12 h]
  cases (c == 32)
  · exact ⟨_, rfl⟩
  · exact ⟨_, rfl⟩
theorem accepts_ns (c : Nat) (seen : Sre.Seen) (h : okc c) : ∃ seen', Sre.accepts wcode 19 c seen = .ok (!(c == 32), seen') := by
  show ∃ seen', Sre.inSet wcode c (35 + 1) 21 true seen = _
  rw [Sre.inSet]
  show ∃ seen', (Sre.category 13 c >>= _) = _
  rw [cat13 h]
  cases (c == 32)
  · exact ⟨_, rfl⟩
  · exact ⟨_, rfl⟩
/-- how many signs stand from p on that q takes -/
def cnt (q : Nat → Bool) (t : Array Nat) (p : Nat) : Nat := ((t.toList.drop p).takeWhile q).length
theorem cnt_end (q : Nat → Bool) {t : Array Nat} {p : Nat} (h : t.size ≤ p) : cnt q t p = 0 := by
  unfold cnt
  rw [List.drop_of_length_le (by simpa using h)]; rfl
theorem cnt_step (q : Nat → Bool) {t : Array Nat} {p : Nat} (h : p < t.size) : cnt q t p = if q (t.getD p 0) then cnt q t (p + 1) + 1 else 0 := by
  unfold cnt
  have h' : p < t.toList.length := by simpa using h
  rw [List.drop_eq_getElem_cons h', List.takeWhile_cons]
  have e : t.getD p 0 = t.toList[p] := by simp [Array.getD, h]
  rw [e]
  cases q t.toList[p] <;> simp
theorem cnt_le (q : Nat → Bool) (t : Array Nat) (p : Nat) : p + cnt q t p ≤ max p t.size := by
  unfold cnt
  have h1 := (List.takeWhile_sublist (l := t.toList.drop p) q).length_le
  rw [List.length_drop] at h1
  have h2 : t.toList.length = t.size := by simp
  have h3 : (List.takeWhile q (List.drop p t.toList)).length ≤ t.size - p := by omega
  omega
theorem run_cnt (q : Nat → Bool) (i : Nat) (t : Array Nat) (hq : ∀ c seen, okc c → ∃ seen', Sre.accepts wcode i c seen = .ok (q c, seen')) (ht : ∀ c ∈ t.toList, okc c) :
    ∀ (n p found : Nat) (seen : Sre.Seen), p + n ≤ t.size → (p + n = t.size) → ∃ seen', Sre.run wcode t i n p found seen = .ok (found + cnt q t p, seen')
  | 0, p, found, seen, _, he => ⟨seen, by rw [cnt_end q (by omega)]; rfl⟩
  | n + 1, p, found, seen, hle, he => by
    have hp : p < t.size := by omega
    have hmem : t.getD p 0 ∈ t.toList := by simp [Array.getD, hp]
    obtain ⟨s1, h1⟩ := hq (t.getD p 0) seen (ht _ hmem)
    unfold Sre.run
    rw [h1, cnt_step q hp]
    cases hc : q (t.getD p 0)
    · exact ⟨s1, rfl⟩
    · obtain ⟨s2, h2⟩ := run_cnt q i t hq ht n (p + 1) (found + 1) s1 (by omega) (by omega)
      refine ⟨s2, ?_⟩
      show Sre.run wcode t i n (p + 1) (found + 1) s1 = _
      rw [h2]
      simp only [if_true]
      congr 2; omega
def isp (c : Nat) : Bool := c == 32
def nsp (c : Nat) : Bool := !(c == 32)
def Ms (t : Array Nat) (p pc pos handed : Nat) (frames : List Sre.Frame) (weight : Nat) (answer : Option Bool) (seen : Sre.Seen) : Sre.M :=
  { code := wcode, text := t, lim := t.size, start := p, pc, pos, handed, marks := #[], frames, weight, answer, seen }
def gbf (pc pos : Nat) (count : Int) : Sre.Frame := { wait := .giveBack, pc, pos, outermost := true, count }
section
variable {t : Array Nat} {p : Nat}
theorem step35 (pos handed : Nat) (fr : List Sre.Frame) (w : Nat) (seen : Sre.Seen) : ∃ seen', (Ms t p 35 pos handed fr w none seen).step = Ms t p 35 pos pos fr w (some true) seen' := ⟨_, rfl⟩
theorem stepYes (pc pos pc' pos' handed : Nat) (n : Int) (fr : List Sre.Frame) (w : Nat) (seen : Sre.Seen) : (Ms t p pc pos handed (gbf pc' pos' n :: fr) (w + 1) (some true) seen).step = Ms t p pc' pos' handed fr w (some true) seen := rfl
theorem stepEnd (pc pos handed w : Nat) (b : Bool) (seen : Sre.Seen) : (Ms t p pc pos handed [] w (some b) seen).step = { Ms t p pc pos handed [] w (some b) seen with outcome := some (if b then .matched else .failed) } := rfl
theorem stepNo0 (pc pos pos' handed : Nat) (w : Nat) (seen : Sre.Seen) : (Ms t p pc pos handed [gbf 5 pos' 0] (w + 1) (some false) seen).step = Ms t p 5 pos' handed [] w (some false) seen := rfl
theorem stepNo (pc pos pos' handed : Nat) (m : Int) (hm : 1 ≤ m) (seen : Sre.Seen) : (Ms t p pc pos handed [gbf 5 pos' m] 1 (some false) seen).step = Ms t p 15 (pos' - 1) (pos' - 1) [gbf 5 (pos' - 1) (m - 1)] 1 none seen := by
  unfold Sre.M.step
  show Sre.M.resume _ (gbf 5 pos' m) false = _
  unfold Sre.M.resume
  show (if (m - 1) < ((0 : Nat) : Int) then _ else _) = _
  rw [if_neg (by omega)]
  rfl
theorem run9 (ht : ∀ c ∈ t.toList, okc c) (hs : t.size < 1000) {q : Nat} (hq : q ≤ t.size) (S : Sre.Seen) : ∃ s2, Sre.run wcode t 9 (min 4294967295 ((t.size : Int) - (q : Int)).toNat) q 0 S = .ok (0 + cnt isp t q, s2) := by
  have e : min 4294967295 ((t.size : Int) - (q : Int)).toNat = t.size - q := by omega
  rw [e]
  exact run_cnt isp 9 t (fun c s h => accepts_sp9 c s h) ht _ q 0 S (by omega) (by omega)
theorem run29 (ht : ∀ c ∈ t.toList, okc c) (hs : t.size < 1000) {q : Nat} (hq : q ≤ t.size) (S : Sre.Seen) : ∃ s2, Sre.run wcode t 29 (min 4294967295 ((t.size : Int) - (q : Int)).toNat) q 0 S = .ok (0 + cnt isp t q, s2) := by
  have e : min 4294967295 ((t.size : Int) - (q : Int)).toNat = t.size - q := by omega
  rw [e]
  exact run_cnt isp 29 t (fun c s h => accepts_sp29 c s h) ht _ q 0 S (by omega) (by omega)
theorem run19 (ht : ∀ c ∈ t.toList, okc c) (hs : t.size < 1000) {q : Nat} (hq : q ≤ t.size) (S : Sre.Seen) : ∃ s2, Sre.run wcode t 19 (min 4294967295 ((t.size : Int) - (q : Int)).toNat) q 0 S = .ok (0 + cnt nsp t q, s2) := by
  have e : min 4294967295 ((t.size : Int) - (q : Int)).toNat = t.size - q := by omega
  rw [e]
  exact run_cnt nsp 19 t (fun c s h => accepts_ns c s h) ht _ q 0 S (by omega) (by omega)
/-- what a run of signs leads to -/
def after (t : Array Nat) (p pc q handed : Nat) (fr : List Sre.Frame) (w least : Nat) : Except String (Nat × Sre.Seen) → Sre.M
  | .error why => (Ms t p pc q handed fr w none {}).stick why
  | .ok (n, seen) => if n < least then Ms t p pc q handed fr w (some false) seen else Ms t p (pc + 10) (q + n) (q + n) (gbf pc (q + n) n :: fr) (w + 1) none seen
theorem exec5 (q handed : Nat) (fr : List Sre.Frame) (seen : Sre.Seen) (why : ∀ e, Sre.run wcode t 9 (min 4294967295 ((t.size : Int) - (q : Int)).toNat) q 0 ((seen.add 24).add 13) ≠ .error e) (P : Sre.M → Prop)
    (h0 : ((0 : Nat) : Int) > (t.size : Int) - (q : Int) → ∀ s', P (Ms t p 5 q handed fr 0 (some false) s'))
    (h : P (after t p 5 q handed fr 0 0 (Sre.run wcode t 9 (min 4294967295 ((t.size : Int) - (q : Int)).toNat) q 0 ((seen.add 24).add 13)))) : P (Ms t p 5 q handed fr 0 none seen).step := by
  have e : (Ms t p 5 q handed fr 0 none seen).step = if ((0 : Nat) : Int) > (t.size : Int) - (q : Int) then Ms t p 5 q handed fr 0 (some false) (seen.add 24) else
      (match Sre.run wcode t 9 (min 4294967295 ((t.size : Int) - (q : Int)).toNat) q 0 ((seen.add 24).add 13) with
      | .error why => (Ms t p 5 q handed fr 0 none (seen.add 24)).stick why
      | .ok (n, seen) => if n < 0 then Ms t p 5 q handed fr 0 (some false) seen else Ms t p 15 (q + n) (q + n) (gbf 5 (q + n) n :: fr) 1 none seen) := rfl
  rw [e]
  split
  · exact h0 ‹_› _
  · cases hr : Sre.run wcode t 9 (min 4294967295 ((t.size : Int) - (q : Int)).toNat) q 0 ((seen.add 24).add 13) with
    | error e => exact absurd hr (why e)
    | ok r => rw [hr] at h; exact h
theorem exec15 (q handed : Nat) (fr : List Sre.Frame) (seen : Sre.Seen) (why : ∀ e, Sre.run wcode t 19 (min 4294967295 ((t.size : Int) - (q : Int)).toNat) q 0 ((seen.add 24).add 13) ≠ .error e) (P : Sre.M → Prop)
    (h0 : ((1 : Nat) : Int) > (t.size : Int) - (q : Int) → ∀ s', P (Ms t p 15 q handed fr 1 (some false) s'))
    (h : P (after t p 15 q handed fr 1 1 (Sre.run wcode t 19 (min 4294967295 ((t.size : Int) - (q : Int)).toNat) q 0 ((seen.add 24).add 13)))) : P (Ms t p 15 q handed fr 1 none seen).step := by
  have e : (Ms t p 15 q handed fr 1 none seen).step = if ((1 : Nat) : Int) > (t.size : Int) - (q : Int) then Ms t p 15 q handed fr 1 (some false) (seen.add 24) else
      (match Sre.run wcode t 19 (min 4294967295 ((t.size : Int) - (q : Int)).toNat) q 0 ((seen.add 24).add 13) with
      | .error why => (Ms t p 15 q handed fr 1 none (seen.add 24)).stick why
      | .ok (n, seen) => if n < 1 then Ms t p 15 q handed fr 1 (some false) seen else Ms t p 25 (q + n) (q + n) (gbf 15 (q + n) n :: fr) 2 none seen) := rfl
  rw [e]
  split
  · exact h0 ‹_› _
  · cases hr : Sre.run wcode t 19 (min 4294967295 ((t.size : Int) - (q : Int)).toNat) q 0 ((seen.add 24).add 13) with
    | error e => exact absurd hr (why e)
    | ok r => rw [hr] at h; exact h
theorem exec25 (q handed : Nat) (fr : List Sre.Frame) (seen : Sre.Seen) (why : ∀ e, Sre.run wcode t 29 (min 4294967295 ((t.size : Int) - (q : Int)).toNat) q 0 ((seen.add 24).add 13) ≠ .error e) (P : Sre.M → Prop)
    (h0 : ((0 : Nat) : Int) > (t.size : Int) - (q : Int) → ∀ s', P (Ms t p 25 q handed fr 2 (some false) s'))
    (h : P (after t p 25 q handed fr 2 0 (Sre.run wcode t 29 (min 4294967295 ((t.size : Int) - (q : Int)).toNat) q 0 ((seen.add 24).add 13)))) : P (Ms t p 25 q handed fr 2 none seen).step := by
  have e : (Ms t p 25 q handed fr 2 none seen).step = if ((0 : Nat) : Int) > (t.size : Int) - (q : Int) then Ms t p 25 q handed fr 2 (some false) (seen.add 24) else
      (match Sre.run wcode t 29 (min 4294967295 ((t.size : Int) - (q : Int)).toNat) q 0 ((seen.add 24).add 13) with
      | .error why => (Ms t p 25 q handed fr 2 none (seen.add 24)).stick why
      | .ok (n, seen) => if n < 0 then Ms t p 25 q handed fr 2 (some false) seen else Ms t p 35 (q + n) (q + n) (gbf 25 (q + n) n :: fr) 3 none seen) := rfl
  rw [e]
  split
  · exact h0 ‹_› _
  · cases hr : Sre.run wcode t 29 (min 4294967295 ((t.size : Int) - (q : Int)).toNat) q 0 ((seen.add 24).add 13) with
    | error e => exact absurd hr (why e)
    | ok r => rw [hr] at h; exact h

theorem step5 (ht : ∀ c ∈ t.toList, okc c) (hs : t.size < 1000) (hp : p ≤ t.size) (handed : Nat) (seen : Sre.Seen) (P : Sre.M → Prop)
    (h : ∀ seen', P (Ms t p 15 (p + cnt isp t p) (p + cnt isp t p) [gbf 5 (p + cnt isp t p) (cnt isp t p : Nat)] 1 none seen')) : P (Ms t p 5 p handed [] 0 none seen).step := by
  obtain ⟨s2, h2⟩ := run9 ht hs hp ((seen.add 24).add 13)
  refine exec5 p handed [] seen (fun e q => by rw [h2] at q; cases q) P (fun hc => absurd hc (by omega)) ?_
  rw [h2, Nat.zero_add]
  exact h s2
theorem step25 (ht : ∀ c ∈ t.toList, okc c) (hs : t.size < 1000) {q : Nat} (hq : q ≤ t.size) (handed : Nat) (fr : List Sre.Frame) (seen : Sre.Seen) (P : Sre.M → Prop)
    (h : ∀ seen', P (Ms t p 35 (q + cnt isp t q) (q + cnt isp t q) (gbf 25 (q + cnt isp t q) (cnt isp t q : Nat) :: fr) 3 none seen')) : P (Ms t p 25 q handed fr 2 none seen).step := by
  obtain ⟨s2, h2⟩ := run29 ht hs hq ((seen.add 24).add 13)
  refine exec25 q handed fr seen (fun e z => by rw [h2] at z; cases z) P (fun hc => absurd hc (by omega)) ?_
  rw [h2, Nat.zero_add]
  exact h s2
theorem step15 (ht : ∀ c ∈ t.toList, okc c) (hs : t.size < 1000) {q : Nat} (hq : q < t.size) (hb : 1 ≤ cnt nsp t q) (handed : Nat) (fr : List Sre.Frame) (seen : Sre.Seen) (P : Sre.M → Prop)
    (h : ∀ seen', P (Ms t p 25 (q + cnt nsp t q) (q + cnt nsp t q) (gbf 15 (q + cnt nsp t q) (cnt nsp t q : Nat) :: fr) 2 none seen')) : P (Ms t p 15 q handed fr 1 none seen).step := by
  obtain ⟨s2, h2⟩ := run19 ht hs (Nat.le_of_lt hq) ((seen.add 24).add 13)
  refine exec15 q handed fr seen (fun e z => by rw [h2] at z; cases z) P (fun hc => absurd hc (by omega)) ?_
  rw [h2, Nat.zero_add]
  show P (if cnt nsp t q < 1 then _ else _)
  rw [if_neg (by omega)]
  exact h s2
theorem step15no (ht : ∀ c ∈ t.toList, okc c) (hs : t.size < 1000) {q : Nat} (hq : q ≤ t.size) (hb : cnt nsp t q = 0) (handed : Nat) (fr : List Sre.Frame) (seen : Sre.Seen) (P : Sre.M → Prop)
    (h : ∀ seen', P (Ms t p 15 q handed fr 1 (some false) seen')) : P (Ms t p 15 q handed fr 1 none seen).step := by
  obtain ⟨s2, h2⟩ := run19 ht hs hq ((seen.add 24).add 13)
  refine exec15 q handed fr seen (fun e z => by rw [h2] at z; cases z) P (fun _ => h) ?_
  rw [h2, hb]
  exact h s2
theorem runFor_done : ∀ (n : Nat) (m : Sre.M), m.outcome.isSome = true → m.runFor n = m
  | 0, _, _ => rfl
  | n + 1, m, h => by unfold Sre.M.runFor; rw [if_pos h]
theorem runFor_succ (n : Nat) (m : Sre.M) : m.runFor (n + 1) = m.step.runFor n := by
  by_cases h : m.outcome.isSome = true
  · have e : m.step = m := by unfold Sre.M.step; rw [if_pos h]
    rw [runFor_done _ _ h, e, runFor_done _ _ h]
  · rw [Sre.M.runFor, if_neg h]
theorem runFor_add (a b : Nat) (m : Sre.M) : m.runFor (a + b) = (m.runFor a).runFor b := by
  induction a generalizing m with
  | zero => rw [Nat.zero_add]; rfl
  | succ a ih => rw [show a + 1 + b = (a + b) + 1 by omega, runFor_succ, runFor_succ, ih]
/-- the way back, without a word found -/
theorem back_no (ht : ∀ c ∈ t.toList, okc c) (hs : t.size < 1000) (P : Sre.M → Prop) : ∀ (m q handed : Nat) (seen : Sre.Seen), q ≤ t.size → (∀ j, j ≤ m → cnt nsp t (q - j) = 0) →
    (∀ z : Sre.M, z.outcome = some .failed → P z) → P ((Ms t p 15 q handed [gbf 5 q (m : Nat)] 1 none seen).runFor (2 * m + 3))
  | 0, q, handed, seen, hq, hb, h => by
    rw [runFor_succ]
    refine step15no ht hs hq (hb 0 (Nat.le_refl _)) _ _ _ (fun z => P (z.runFor 2)) fun s1 => ?_
    rw [runFor_succ]
    show P ((Ms t p 5 q handed [] 0 (some false) s1).runFor 1)
    rw [runFor_succ]
    exact h _ rfl
  | m + 1, q, handed, seen, hq, hb, h => by
    rw [show 2 * (m + 1) + 3 = ((2 * m + 3) + 1) + 1 by omega, runFor_succ]
    refine step15no ht hs hq (hb 0 (by omega)) _ _ _ (fun z => P (z.runFor ((2 * m + 3) + 1))) fun s1 => ?_
    rw [runFor_succ]
    show P (Sre.M.runFor _ (Ms t p 15 q handed [gbf 5 q (((m + 1 : Nat) : Int))] 1 (some false) s1).step)
    rw [stepNo _ _ _ _ _ (by omega)]
    rw [show (((m + 1 : Nat) : Int) - 1) = (m : Int) by omega]
    exact back_no ht hs P m (q - 1) _ s1 (by omega) (fun j hj => by have := hb (j + 1) (by omega); rwa [show q - 1 - j = q - (j + 1) by omega]) h
end
/-- the machine at the start -/
theorem start_eq {t : Array Nat} {p : Nat} (hp : p < t.size) (P : Sre.M → Prop) (h : ∀ seen, P (Ms t p 5 p p [] 0 none seen)) : P (Sre.forMatch wcode t 0 p t.size false false) := by
  unfold Sre.forMatch
  show P (if (((1 : Nat) != 0 && decide (p ≤ t.size)) && decide (t.size - p < 1)) = true then _ else _)
  rw [if_neg (by simp; omega)]
  exact h _
theorem start_end {t : Array Nat} {p : Nat} (hp : p = t.size) : (Sre.forMatch wcode t 0 p t.size false false).answer = some false ∧ (Sre.forMatch wcode t 0 p t.size false false).frames = [] ∧ (Sre.forMatch wcode t 0 p t.size false false).outcome = none := by
  subst hp
  unfold Sre.forMatch
  have e : (((1 : Nat) != 0 && decide (t.size ≤ t.size)) && decide (t.size - t.size < 1)) = true := by simp
  refine ⟨?_, ?_, ?_⟩
  · show (if (((1 : Nat) != 0 && decide (t.size ≤ t.size)) && decide (t.size - t.size < 1)) = true then _ else _ : Sre.M).answer = _
    rw [if_pos e]; rfl
  · show (if (((1 : Nat) != 0 && decide (t.size ≤ t.size)) && decide (t.size - t.size < 1)) = true then _ else _ : Sre.M).frames = _
    rw [if_pos e]; rfl
  · show (if (((1 : Nat) != 0 && decide (t.size ≤ t.size)) && decide (t.size - t.size < 1)) = true then _ else _ : Sre.M).outcome = _
    rw [if_pos e]; rfl
end Mine
end
section
open PySem PySem.W PySem.Calls PyProof.Rows
namespace Mine
open PySem.Builtin.Re
section
variable {M : Model} {A : Around} {E : Value → Shared → Prop} {s : Shared}
theorem drive {Q : Sre.M → Shared → Prop} : ∀ (k T : Nat) (m : Sre.M), 1 ≤ k → k ≤ T → (m.runFor (4 * k)).outcome.isSome = true → Q (m.runFor (4 * k)) s → wpAny M A (reDrive T m) Q E s
  | 0, _, _, h, _, _, _ => absurd h (by omega)
  | k + 1, 0, _, _, h, _, _ => absurd h (by omega)
  | k + 1, T + 1, m, _, hT, ho, hQ => by
    have e4 : m.runFor (4 * (k + 1)) = (m.runFor 4).runFor (4 * k) := by rw [← runFor_add]; congr 1; omega
    unfold reDrive
    show wpAny M A (if (m.runFor 4).outcome.isSome = true then pure (m.runFor 4) else _) Q E s
    by_cases h : (m.runFor 4).outcome.isSome = true
    · rw [if_pos h]
      rw [e4, runFor_done _ _ h] at hQ
      exact wpAny_pure hQ
    · rw [if_neg h]
      rw [e4] at ho hQ
      have hk : 1 ≤ k := by
        rcases Nat.eq_zero_or_pos k with rfl | hk
        · exact absurd ho h
        · exact hk
      exact wpAny_bind (wpAny_rule (drive k T _ hk (by omega) ho hQ))
theorem for_rules {α : Type} {f : α → PUnit → Sem (ForInStep PUnit)} (hf : ∀ a r (s : Shared) (Q : ForInStep PUnit → Shared → Prop), Q (.yield ⟨⟩) s → wpAny M A (f a r) Q E s) {Q : PUnit → Shared → Prop} : ∀ (l : List α) (s : Shared), Q ⟨⟩ s → wpAny M A (forIn l ⟨⟩ f) Q E s
  | [], s, h => by rw [List.forIn_nil]; exact wpAny_pure h
  | a :: l, s, h => by
    rw [List.forIn_cons]
    exact wpAny_bind (hf a _ s _ (for_rules hf l s h))
theorem to_end {m : Sre.M} (k : Nat) (h1 : 1 ≤ k) (h2 : k ≤ 2 ^ 64) {Q : Option Sre.M → Shared → Prop}
    (h : ((m.runFor (4 * k)).outcome = some .matched ∧ Q (some (m.runFor (4 * k))) s) ∨ ((m.runFor (4 * k)).outcome = some .failed ∧ Q none s)) : wpAny M A (reRunToEnd m) Q E s := by
  unfold reRunToEnd
  refine wpAny_bind (drive k (2 ^ 64) m h1 h2 (by rcases h with ⟨h, _⟩ | ⟨h, _⟩ <;> rw [h] <;> rfl) ?_)
  refine wpAny_bind (for_rules (fun i r s Q hq => ?_) _ _ ?_)
  · show wpAny M A (if (_ : Bool) = true then _ else _) _ _ _
    split
    · exact wpAny_bind (wpAny_rule (wpAny_pure hq))
    · exact wpAny_pure hq
  · rcases h with ⟨h, q⟩ | ⟨h, q⟩
    · rw [h]; exact wpAny_pure q
    · rw [h]; exact wpAny_pure q
theorem re_found {t : Array Nat} {p : Nat} (ht : ∀ c ∈ t.toList, okc c) (hs : t.size < 1000) (hp : p < t.size) (hb : 1 ≤ cnt nsp t (p + cnt isp t p)) {Q : Option Sre.M → Shared → Prop}
    (h : ∀ m : Sre.M, m.start = p → m.handed = p + cnt isp t p + cnt nsp t (p + cnt isp t p) + cnt isp t (p + cnt isp t p + cnt nsp t (p + cnt isp t p)) → m.lastmark = -1 → m.lastindex = -1 → Q (some m) s) :
    wpAny M A (reRunToEnd (Sre.forMatch wcode t 0 p t.size false false)) Q E s := by
  refine to_end 2 (by omega) (by decide) (.inl ?_)
  have hq : p + cnt isp t p < t.size := by
    rcases Nat.lt_or_ge (p + cnt isp t p) t.size with h | h
    · exact h
    · rw [cnt_end nsp h] at hb; omega
  have hq2 : p + cnt isp t p + cnt nsp t (p + cnt isp t p) ≤ t.size := by have := cnt_le nsp t (p + cnt isp t p); omega
  refine start_eq hp (fun z => (z.runFor 8).outcome = some .matched ∧ Q (some (z.runFor 8)) s) fun s0 => ?_
  rw [show (8 : Nat) = 7 + 1 from rfl, runFor_succ]
  refine step5 ht hs (Nat.le_of_lt hp) _ _ (fun z => (z.runFor 7).outcome = some .matched ∧ Q (some (z.runFor 7)) s) fun s1 => ?_
  rw [show (7 : Nat) = 6 + 1 from rfl, runFor_succ]
  refine step15 ht hs hq hb _ _ _ (fun z => (z.runFor 6).outcome = some .matched ∧ Q (some (z.runFor 6)) s) fun s2 => ?_
  rw [show (6 : Nat) = 5 + 1 from rfl, runFor_succ]
  refine step25 ht hs hq2 _ _ _ (fun z => (z.runFor 5).outcome = some .matched ∧ Q (some (z.runFor 5)) s) fun s3 => ?_
  exact ⟨rfl, h _ rfl rfl rfl rfl⟩
theorem re_none {t : Array Nat} {p : Nat} (ht : ∀ c ∈ t.toList, okc c) (hs : t.size < 1000) (hp : p ≤ t.size) (hb : cnt nsp t (p + cnt isp t p) = 0) (hsp : ∀ j, j ≤ cnt isp t p → cnt nsp t (p + cnt isp t p - j) = 0) {Q : Option Sre.M → Shared → Prop} (h : Q none s) :
    wpAny M A (reRunToEnd (Sre.forMatch wcode t 0 p t.size false false)) Q E s := by
  rcases Nat.lt_or_ge p t.size with hlt | hge
  · have ha := cnt_le isp t p
    refine to_end (cnt isp t p + 1) (by omega) (by omega) (.inr ⟨?_, h⟩)
    refine start_eq hlt (fun z => (z.runFor (4 * (cnt isp t p + 1))).outcome = some .failed) fun s0 => ?_
    rw [show 4 * (cnt isp t p + 1) = ((2 * cnt isp t p + 3) + (2 * cnt isp t p)) + 1 by omega, runFor_succ]
    refine step5 ht hs hp _ _ (fun z => (z.runFor _).outcome = some .failed) fun s1 => ?_
    rw [runFor_add]
    refine back_no ht hs (fun z => (z.runFor _).outcome = some .failed) _ _ _ _ (by omega) hsp fun z hz => ?_
    rw [runFor_done _ _ (by rw [hz]; rfl)]
    exact hz
  · have e : p = t.size := by omega
    obtain ⟨e1, e2, e3⟩ := start_end e
    refine to_end 1 (by omega) (by decide) (.inr ⟨?_, h⟩)
    rw [show 4 * 1 = 3 + 1 from rfl, runFor_succ]
    have e4 : (Sre.forMatch wcode t 0 p t.size false false).step.outcome = some .failed := by
      unfold Sre.M.step
      rw [e1, e2, e3]
      rfl
    rw [runFor_done _ _ (by rw [e4]; rfl)]
    exact e4
end
end Mine
end
section
open PySem PySem.W PySem.W.X PySem.Calls PyProof.Rows
namespace Mine
open PySem.Builtin.Re
theorem pa_pat : PlainAttrs "re.Pattern" :=
  ⟨⟨"object.__getattribute__", by rw [typeLookup_type, builtinLookup_eq_fast]; kernel_rfl, by decide +kernel⟩, by rw [typeLookup_type, builtinLookup_eq_fast]; kernel_rfl⟩
theorem pa_mat : PlainAttrs "re.Match" :=
  ⟨⟨"object.__getattribute__", by rw [typeLookup_type, builtinLookup_eq_fast]; kernel_rfl, by decide +kernel⟩, by rw [typeLookup_type, builtinLookup_eq_fast]; kernel_rfl⟩
theorem slot_match : Slot "re.Pattern" "match" "re.Pattern.match" :=
  .of (owner := "re.Pattern") (n := "match") (by rw [typeLookup_type, builtinLookup_eq_fast]; kernel_rfl) (by decide +kernel) (by decide +kernel) (by decide +kernel)
    (by first | exact .inl (by decide +kernel) | exact .inr (by decide +kernel)) (by rw [isSubtype_type]; kernel_rfl)
theorem slot_span : Slot "re.Match" "span" "re.Match.span" :=
  .of (owner := "re.Match") (n := "span") (by rw [typeLookup_type, builtinLookup_eq_fast]; kernel_rfl) (by decide +kernel) (by decide +kernel) (by decide +kernel)
    (by first | exact .inl (by decide +kernel) | exact .inr (by decide +kernel)) (by rw [isSubtype_type]; kernel_rfl)
theorem slot_group : Slot "re.Match" "group" "re.Match.group" :=
  .of (owner := "re.Match") (n := "group") (by rw [typeLookup_type, builtinLookup_eq_fast]; kernel_rfl) (by decide +kernel) (by decide +kernel) (by decide +kernel)
    (by first | exact .inl (by decide +kernel) | exact .inr (by decide +kernel)) (by rw [isSubtype_type]; kernel_rfl)
theorem type_match : typeOf (.builtin "re.Pattern.match") = pure (.type "method_descriptor") := by show builtinType _ = _; rw [builtinType_eq_fast]; kernel_rfl
theorem type_span : typeOf (.builtin "re.Match.span") = pure (.type "method_descriptor") := by show builtinType _ = _; rw [builtinType_eq_fast]; kernel_rfl
theorem type_group : typeOf (.builtin "re.Match.group") = pure (.type "method_descriptor") := by show builtinType _ = _; rw [builtinType_eq_fast]; kernel_rfl
theorem entry_match : entryFor table "re.Pattern.match" = some Builtin.«re.Pattern.match» := entryFor_of_tree (by kernel_rfl)
theorem entry_span : entryFor table "re.Match.span" = some Builtin.«re.Match.span» := entryFor_of_tree (by kernel_rfl)
theorem entry_group : entryFor table "re.Match.group" = some Builtin.«re.Match.group» := entryFor_of_tree (by kernel_rfl)
theorem args_match (a b c : Value) : argsOk "re.Pattern.match" ⟨[a, b, c], []⟩ := by unfold argsOk; kernel_rfl
theorem args_span (a : Value) : argsOk "re.Match.span" ⟨[a], []⟩ := by unfold argsOk; kernel_rfl
theorem args_group (a b : Value) : argsOk "re.Match.group" ⟨[a, b], []⟩ := by unfold argsOk; kernel_rfl
end Mine
end
section
open PySem PySem.W PySem.W.X PySem.Calls PyProof.Rows
namespace Mine
open PySem.Builtin.Re
def matObj (x : Str) (t : Tok) (p n : Nat) (tu : Addr) : Obj := { cls := .type "re.Match", data := .fields #[.str x t, .ref 251, rawInt p, rawInt n, rawInt (-1), .ref tu] }
def spanObj (a b : Nat) : Obj := { cls := .type "tuple", data := .seq #[rawInt a, rawInt b] }
set_option profiler true
set_option profiler.threshold 1000
section
variable {w : World} {A : Around} {E : Value → Shared → Prop} {s : Shared} {Q : Value → Shared → Prop}
theorem target {T : ReTarget → Shared → Prop} {x : Str} {t u : Tok} {p : Nat} (X : (hd.heap_39 w.params).In s.heap) (hs : x.cps.size < 1000) (hp : p ≤ x.cps.size)
    (h : T { pattern := .ref 251, string := .str x t, code := wcode, text := x.cps, kind := 0, groups := 0, pos := p, lim := x.cps.size } s) :
    wpAny (model PySem.Challenge.rw_ey0021_01.row.prog w) A (reTarget "re.Pattern.match" "match" ⟨[.ref 251, .str x t, .int p u], []⟩) T E s := by
  revert X; k_fill; intro X
  have h251 := X 251 _ (by k_dflt k_is)
  have h250 := X 250 _ (by k_dflt k_is)
  unfold reTarget
  refine wpAny_bind (wpAny_of_eq (a := [some (Value.str x t), some (Value.int p u), none]) rfl ?_)
  refine wpAny_bind (m := reSsize (.int p u)) ?_
  unfold reSsize
  refine wpAny_bind (wpAny_of_eq (a := (p : Int)) rfl ?_)
  show wpAny _ _ (if (decide ((p : Int) < -(2 ^ 63)) || decide ((p : Int) ≥ 2 ^ 63)) = true then _ else _) _ _ _
  rw [if_neg (by simp; omega)]
  refine wpAny_pure ?_
  show wpAny _ _ (fieldsOf (.ref 251) >>= _) _ _ _
  refine wpAny_bind (wpAny_fieldsOf h251 rfl ?_)
  refine wpAny_bind (wpAny_of_eq (a := (x.cps, 0)) rfl ?_)
  show wpAny _ _ (reRawItems (.ref 250) >>= _) _ _ _
  unfold reRawItems
  refine wpAny_bind (wpAny_bind (wpAny_seqItems h250 rfl (wpAny_pure ?_)))
  refine wpAny_pure ?_
  have e1 : min ((p : Int)).toNat x.cps.size = p := by omega
  have e2 : min ((2 ^ 63 - 1 : Int)).toNat x.cps.size = x.cps.size := by omega
  simp only [Option.getD_some, List.map_toArray, List.map_cons, List.map_nil, reRawOf]
  show T { pattern := .ref 251, string := .str x t, code := wcode, text := x.cps, kind := 0, groups := 0, pos := min ((p : Int)).toNat x.cps.size, lim := min ((2 ^ 63 - 1 : Int)).toNat x.cps.size } s
  rw [e1, e2]
  exact h
theorem m_match {pl : Sem Bool} {Q : Value × List Value → Shared → Prop} (X : (hd.heap_39 w.params).In s.heap) (h : Q (.builtin "re.Pattern.match", [.ref 251]) s) :
    wpAny (model PySem.Challenge.rw_ey0021_01.row.prog w) A (getMethod (.ref 251) (Str.ofString "match") pl) Q E s := by
  revert X; k_fill; intro X
  have h251 := X 251 _ (by k_dflt k_is)
  exact getMethod_builtin ⟨_, h251, rfl⟩ pa_pat slot_match type_match (fun a e => by cases e; exact ⟨_, h251, rfl⟩) h
theorem m_mat {pl : Sem Bool} {name : Str} {id : String} {mo tu : Addr} {x : Str} {t : Tok} {p n : Nat} {Q : Value × List Value → Shared → Prop} (ho : s.heap.get? mo = some (matObj x t p n tu)) (slot : Slot "re.Match" name id) (hty : typeOf (.builtin id) = pure (.type "method_descriptor"))
    (h : Q (.builtin id, [.ref mo]) s) : wpAny (model PySem.Challenge.rw_ey0021_01.row.prog w) A (getMethod (.ref mo) name pl) Q E s :=
  getMethod_builtin ⟨_, ho, rfl⟩ pa_mat slot hty (fun a e => by cases e; exact ⟨_, ho, rfl⟩) h
theorem call_found {x : Str} {t u : Tok} {p : Nat} (X : (hd.heap_39 w.params).In s.heap) (hx : okx x) (hs : x.cps.size < 1000) (hp : p < x.cps.size) (hb : 1 ≤ cnt nsp x.cps (p + cnt isp x.cps p))
    (h : ∀ mo tu h', Keep s.heap h' → h'.get? mo = some (matObj x t p x.cps.size tu) → h'.get? tu = some (spanObj p (p + cnt isp x.cps p + cnt nsp x.cps (p + cnt isp x.cps p) + cnt isp x.cps (p + cnt isp x.cps p + cnt nsp x.cps (p + cnt isp x.cps p)))) →
      s.heap.get? mo = none → s.heap.get? tu = none → Q (.ref mo) { heap := h', gens := s.gens, drawn := s.drawn, toks := s.toks, os := s.os }) :
    wpAny (model PySem.Challenge.rw_ey0021_01.row.prog w) A (call (.builtin "re.Pattern.match") [.ref 251, .str x t, .int p u]) Q E s := by
  have XX := X
  revert X; k_fill; intro X
  have h251 := X 251 _ (by k_dflt k_is)
  refine wpAny_call_entry slot_match ⟨_, h251, rfl⟩ entry_match ?_ (args_match _ _ _)
  unfold Builtin.«re.Pattern.match»
  refine wpAny_bind (target XX hs (Nat.le_of_lt hp) ?_)
  unfold reAnswer
  refine wpAny_bind (re_found hx hs hp hb fun m e1 e2 e3 e4 => ?_)
  show wpAny _ _ (reNewMatch (.ref 251) (.str x t) 0 p x.cps.size m >>= _) _ _ _
  unfold reNewMatch
  rw [e1, e2, e4]
  refine wpAny_bind ?_
  show wpAny _ _ (newTuple [rawInt p, rawInt _] >>= _) _ _ _
  refine wpAny_bind (wpAny_newTuple ?_ (by size_fits))
  refine wpAny_newObj_type ?_
  refine wpAny_pure ⟨_, rfl, ?_⟩
  refine h _ _ _ (fun b o e => Heap.get?_push_of_some _ (Heap.get?_push_of_some _ e)) (Heap.get?_push_size _ rfl) (Heap.get?_push_of_some _ (Heap.get?_push_size _ rfl)) ?_ ?_
  · exact Heap.get?_none_of_le (by show s.heap.objs.size ≤ (s.heap.push _).objs.size; rw [Heap.size_push]; exact Nat.le_succ _)
  · exact Heap.get?_none_of_le (Nat.le_refl _)
theorem call_none {x : Str} {t u : Tok} {p : Nat} (X : (hd.heap_39 w.params).In s.heap) (hx : okx x) (hs : x.cps.size < 1000) (hp : p ≤ x.cps.size) (hb : cnt nsp x.cps (p + cnt isp x.cps p) = 0) (hsp : ∀ j, j ≤ cnt isp x.cps p → cnt nsp x.cps (p + cnt isp x.cps p - j) = 0)
    (h : Q .none s) :
    wpAny (model PySem.Challenge.rw_ey0021_01.row.prog w) A (call (.builtin "re.Pattern.match") [.ref 251, .str x t, .int p u]) Q E s := by
  have XX := X
  revert X; k_fill; intro X
  have h251 := X 251 _ (by k_dflt k_is)
  refine wpAny_call_entry slot_match ⟨_, h251, rfl⟩ entry_match ?_ (args_match _ _ _)
  unfold Builtin.«re.Pattern.match»
  refine wpAny_bind (target XX hs hp ?_)
  unfold reAnswer
  exact wpAny_bind (re_none hx hs hp hb hsp (wpAny_pure ⟨_, rfl, h⟩))
theorem call_span {x : Str} {t : Tok} {p n a b : Nat} {mo tu : Addr} (ho : s.heap.get? mo = some (matObj x t p n tu)) (ht : s.heap.get? tu = some (spanObj a b))
    (h : ∀ h' d t1 t2 tk, Keep s.heap h' → h'.get? d = some { cls := .type "tuple", data := .seq #[.int a t1, .int b t2] } → s.heap.get? d = none → Q (.ref d) { heap := h', gens := s.gens, drawn := s.drawn, toks := tk, os := s.os }) :
    wpAny (model PySem.Challenge.rw_ey0021_01.row.prog w) A (call (.builtin "re.Match.span") [.ref mo]) Q E s := by
  refine wpAny_call_entry slot_span ⟨_, ho, rfl⟩ entry_span ?_ (args_span _)
  unfold Builtin.«re.Match.span» reOneGroup
  refine wpAny_bind (wpAny_bind (wpAny_of_eq (a := (Value.ref mo, [])) rfl ?_))
  unfold reFound
  refine wpAny_bind (wpAny_bind (wpAny_fieldsOf ho rfl ?_))
  show wpAny _ _ (reRawItems (.ref tu) >>= _) _ _ _
  unfold reRawItems
  refine wpAny_bind (wpAny_bind (wpAny_seqItems ht rfl (wpAny_pure (wpAny_pure ?_))))
  simp only [Option.getD_some, List.map_toArray, List.map_cons, List.map_nil, reRawOf, rawInt]
  refine wpAny_pure (wpAny_bind (wpAny_mkInt (wpAny_bind (wpAny_mkInt ?_))))
  refine wpAny_bind (wpAny_newTuple ?_ (by size_fits))
  refine wpAny_pure ⟨_, rfl, ?_⟩
  exact h _ _ _ _ _ (fun b o e => Heap.get?_push_of_some _ e) (Heap.get?_push_size _ rfl) (Heap.get?_none_of_le (Nat.le_refl _))
theorem call_group {x : Str} {t u : Tok} {p n a b : Nat} {mo tu : Addr} (ho : s.heap.get? mo = some (matObj x t p n tu)) (ht : s.heap.get? tu = some (spanObj a b)) (hs : x.cps.size < 1000)
    (h : ∀ t1 tk, Q (.str ⟨x.cps.extract a b⟩ t1) { heap := s.heap, gens := s.gens, drawn := s.drawn, toks := tk, os := s.os }) :
    wpAny (model PySem.Challenge.rw_ey0021_01.row.prog w) A (call (.builtin "re.Match.group") [.ref mo, .int 0 u]) Q E s := by
  refine wpAny_call_entry slot_group ⟨_, ho, rfl⟩ entry_group ?_ (args_group _ _)
  unfold Builtin.«re.Match.group»
  refine wpAny_bind (wpAny_pure ?_)
  show wpAny _ _ (reFound (.ref mo) >>= _) _ _ _
  unfold reFound
  refine wpAny_bind (wpAny_bind (wpAny_fieldsOf ho rfl ?_))
  show wpAny _ _ (reRawItems (.ref tu) >>= _) _ _ _
  unfold reRawItems
  refine wpAny_bind (wpAny_bind (wpAny_seqItems ht rfl (wpAny_pure (wpAny_pure ?_))))
  simp only [Option.getD_some, List.map_toArray, List.map_cons, List.map_nil, reRawOf, rawInt]
  refine wpAny_bind (wpAny_of_eq (a := 0) rfl ?_)
  unfold reGroupText
  show wpAny _ _ ((if (decide ((a : Int) < 0) || decide ((b : Int) < 0)) = true then _ else _) >>= _) _ _ _
  rw [if_neg (by simp)]
  refine wpAny_bind (wpAny_bind (wpAny_of_eq (a := (x.cps, 0)) rfl ?_))
  show wpAny _ _ (mkStr _) _ _ _
  refine wpAny_mkStr ?_ ?_
  · exact wpAny_pure ⟨_, rfl, h _ _⟩
  · show (x.cps.extract (a : Int).toNat (b : Int).toNat).size ≤ sizeLine
    have e1 : (x.cps.extract (a : Int).toNat (b : Int).toNat).size ≤ x.cps.size := by rw [Array.size_extract]; omega
    have e2 : (1000 : Nat) ≤ sizeLine := by decide
    omega
end
end Mine
end
section
open PySem PySem.W PySem.W.X PySem.Calls PyProof.Rows
namespace Mine
/-- what a stretch of a generator with the frame C may change -/
structure Since (C : Addr) (s s' : Shared) : Prop where
  gens : s'.gens = s.gens
  drawn : s'.drawn = s.drawn
  os : s'.os = s.os
  heap : ∀ b o, b ≠ C → s.heap.get? b = some o → s'.heap.get? b = some o
  frame : (∃ o, s.heap.get? C = some o) → ∃ o, s'.heap.get? C = some o
theorem Since.refl (C : Addr) (s : Shared) : Since C s s := ⟨rfl, rfl, rfl, fun _ _ _ e => e, id⟩
theorem Since.trans {C : Addr} {a b c : Shared} (x : Since C a b) (y : Since C b c) : Since C a c :=
  ⟨y.gens.trans x.gens, y.drawn.trans x.drawn, y.os.trans x.os, fun p o n e => y.heap p o n (x.heap p o n e), fun h => y.frame (x.frame h)⟩
/-- the same, where a generator writes the objects wr -/
structure SinceW (wr : List Addr) (s s' : Shared) : Prop where
  gens : s'.gens = s.gens
  drawn : s'.drawn = s.drawn
  os : s'.os = s.os
  heap : ∀ b o, b ∉ wr → s.heap.get? b = some o → s'.heap.get? b = some o
theorem Since.toW {C : Addr} {s s' : Shared} (x : Since C s s') : SinceW [C] s s' := ⟨x.gens, x.drawn, x.os, fun b o n e => x.heap b o (fun q => n (by rw [q]; simp)) e⟩
theorem SinceW.trans {wr : List Addr} {a b c : Shared} (x : SinceW wr a b) (y : SinceW wr b c) : SinceW wr a c :=
  ⟨y.gens.trans x.gens, y.drawn.trans x.drawn, y.os.trans x.os, fun p o n e => y.heap p o n (x.heap p o n e)⟩
/-- a generator that keeps the objects fp and writes the objects wr -/
def GY (fp wr : List Addr) (base : Heap) (It : Nat → Value → Heap → Heap → Prop) : Protocol := fun m s₀ v s' kap =>
  It m v s₀.heap s'.heap ∧ SinceW wr s₀ s' ∧ (∀ b ∈ fp, ∃ o, s'.heap.get? b = some o) ∧ ∀ s'' : Shared, Keep base s''.heap → (∀ b ∈ fp, ∀ o, s'.heap.get? b = some o → s''.heap.get? b = some o) → kap (.send .none) s''
def GR (wr : List Addr) : GenEnd := fun n s₀ r s₁ => r = .ok (.ret .none) ∧ (n = 0 ∧ SinceW wr s₀ s₁)
section
variable {prog : Program} {w : World} {A : Around} {env : Env} {C : Addr} {base : Heap} {It : Nat → Value → Heap → Heap → Prop}
theorem execs_append_wrap {K : Flow → Sem Fin} {H : Value → Sem Fin} {gd : Bool → Bool} {lv : List Value → List Value} (r : List Stmt) : ∀ l : List Stmt, (execs (l ++ r) env).wrap K H gd lv =
    (execs l env).wrap (fun f => match f with | .next => (execs r env).wrap K H gd lv | f => K f) H gd lv
  | [] => rfl
  | st :: l => by
    rw [List.cons_append, execs_cons_wrap, execs_cons_wrap]
    refine Sem.wrap_congr _ _ _ (fun f => ?_) fun _ => rfl
    cases f <;> first | exact execs_append_wrap r l | rfl
theorem seg_gwhile {test e : Expr} {b1 b2 : List Stmt} {ypos pos : Pos} (Inv : Nat → Shared → Prop) (D U : Nat)
    (turn : ∀ (A' : Around) n s, A'.handled = none → A'.depth ≤ D → A'.units ≤ U → Inv n s →
      wpAny (model prog w) A' (isTrue test env (eval test env)) (fun b s1 => if b = true then ∃ m, n = m + 1 ∧ wpAny (model prog w) A' (execs b1 env) (fun f s2 => f = .next ∧
          wpAny (model prog w) A' (eval e env) (fun v s3 => (∀ s₀ : Shared, Since C s₀ s → It m v s₀.heap s3.heap) ∧ Since C s s3 ∧ (∃ o, s3.heap.get? C = some o) ∧ ∀ s4 : Shared, Keep base s4.heap → (∀ o, s3.heap.get? C = some o → s4.heap.get? C = some o) →
            wpAny (model prog w) A' (execs b2 env) (fun f s5 => f = .next ∧ Inv m s5 ∧ Since C s4 s5) (fun _ _ => False) s4) (fun _ _ => False) s2) (fun _ _ => False) s1
        else n = 0 ∧ Since C s s1) (fun _ _ => False) s)
    (hco : env.scope.isCoroutine = false) (hi : interactive env = false) (fs : List PySem.Frame) (hfs : splitAtGen fs = none) (hfg : fs.any Frame.guarded = false)
    (hh : (A.over (.whileLoop test (b1 ++ .Expr (.Yield (some e) ypos) pos :: b2) [] env) fs).handled = none) (hd : (A.over (.whileLoop test (b1 ++ .Expr (.Yield (some e) ypos) pos :: b2) [] env) fs).depth ≤ D)
    (hu : (A.over (.whileLoop test (b1 ++ .Expr (.Yield (some e) ypos) pos :: b2) [] env) fs).units ≤ U)
    (rest : ∀ s₀ s₁, Since C s₀ s₁ → Seg (model prog w) A (GR [C]) (GY [C] [C] base It) 0 s₀ (.whileLoop test (b1 ++ .Expr (.Yield (some e) ypos) pos :: b2) [] env) (.pure (.done .next)) fs s₁) :
    ∀ (n : Nat) (s₀ s : Shared), Inv n s → Since C s₀ s → Seg (model prog w) A (GR [C]) (GY [C] [C] base It) n s₀ (.whileLoop test (b1 ++ .Expr (.Yield (some e) ypos) pos :: b2) [] env)
      ((model prog w).den (.whileLoop test (b1 ++ .Expr (.Yield (some e) ypos) pos :: b2) [] env)) fs s := by
  intro n
  induction n with
  | zero =>
    intro s₀ s hI hs
    refine seg_whileLoop (wpAny_mono (turn _ 0 s hh hd hu hI) (fun b s1 h => ?_) fun _ _ x => x.elim)
    cases b with
    | true => rw [if_pos rfl] at h; obtain ⟨m, hm, _⟩ := h; cases hm
    | false =>
      rw [if_neg Bool.false_ne_true] at h ⊢
      exact seg_execs_nil (rest _ _ (hs.trans h.2))
  | succ m ih =>
    intro s₀ s hI hs
    refine seg_whileLoop (wpAny_mono (turn _ (m + 1) s hh hd hu hI) (fun b s1 h => ?_) fun _ _ x => x.elim)
    cases b with
    | false => rw [if_neg Bool.false_ne_true] at h; cases h.1
    | true =>
      rw [if_pos rfl] at h ⊢
      obtain ⟨m', hm, h1⟩ := h
      cases hm
      rw [execs_append_wrap]
      refine seg_wrap (wpAny_mono h1 (fun f s2 h2 => ?_) fun _ _ x => x.elim)
      obtain ⟨rfl, h2⟩ := h2
      refine seg_execs_cons ?_
      refine seg_Expr_Yield hfs rfl hfg (wpAny_mono h2 (fun v s3 h3 => ?_) fun _ _ x => x.elim) hco hi
      obtain ⟨hit, hs3, hex, hres⟩ := h3
      intro kap hk
      refine ⟨hit s₀ hs, (hs.trans hs3).toW, fun b hb => by rw [List.mem_singleton.mp hb]; exact hex, fun s4 hb hC => hk .none s4 ?_⟩
      refine seg_wrap (wpAny_mono (hres s4 hb fun o e => hC C (by simp) o e) (fun f s5 h5 => ?_) fun _ _ x => x.elim)
      obtain ⟨rfl, hI5, hs5⟩ := h5
      exact seg_again rfl (ih s4 s5 hI5 hs5)
end
section
variable {prog : Program} {w : World} {A : Around} {E : Value → Shared → Prop} {s : Shared} {fp wr kp : List Addr} {base : Heap} {It : Nat → Value → Heap → Heap → Prop}
/-- the next item of a generator function -/
theorem next_gen {a : Addr} {g n : Nat} {gs : GenState} {Q : Option Value → Shared → Prop} (hh : A.handled = none) (hl : s.heap.NoLimit) (hroom : A.depth < recursionLimit)
    (hg : s.heap.IsGen a g) (hgs : s.gens[g]? = some gs) (hgo : gs.Goes (model prog w) A.in1 (GR wr) (GY fp wr base It) n (.send .none) (s.setGen g .running))
    (hY : ∀ v s₁ gs', gs'.bare = true → GY fp wr base It (n - 1) (s.setGen g .running) v s₁ (fun r' s'' => match n with
        | 0 => False
        | m + 1 => gs'.Goes (model prog w) A.in1 (GR wr) (GY fp wr base It) m r' s'') → Q (some v) (s₁.setGen g gs'))
    (hP : ∀ s₁, n = 0 → SinceW wr (s.setGen g .running) s₁ → ∀ h', Keep s₁.heap h' → Q none { s₁.setGen g .finished with heap := h' }) :
    wpAny (model prog w) A (pyNext (.ref a)) Q E s := by
  unfold pyNext
  refine wpAny_bind (wpAny_attempt (wpAny_callSpecial?_slot (name := Str.ofString "__next__") hg.typeIs slot_gen_next
    (wpAny_call_entry slot_gen_next hg.typeIs entry_gen_next ?_ (args_gen_next _))))
  show wpAny _ A.in1 (Builtin.Generator.genWake (.ref a) (.send .none)) _ _ s
  unfold Builtin.Generator.genWake
  refine wpAny_bind (wpAny_holding (wpAny_genNumber hg (wpAny_bind (wpAny_genState hgs ?_))))
  cases gs with
  | running => exact hgo.elim
  | finished => exact hgo.elim
  | _ =>
    refine wpAny_bind (wpAny_roomToWake hl hroom ?_)
    show wpAny _ A.in1 (.resume g (.send .none) [] _) _ _ s
    refine wpAny_resumeQ hgs hgo (fun x s₁ hx => ?_) (fun v s₁ gs' hb hv => ?_)
    · obtain ⟨rfl, hn, hp⟩ := hx
      show wpAny _ A.in1 (newExc (.type "StopIteration") [] >>= _) _ _ _
      refine wpAny_bind ?_
      simp only [newExc, newTuple]
      refine wpAny_bind (wpAny_newObj_type ?_ (by size_fits))
      refine wpAny_bind (m := firstArgMember _ _) (wpAny_of_eq (a := Value.none) (by first | rfl | (simp only [firstArgMember]; rfl)) ?_)
      refine wpAny_newObj_type ?_ (by size_fits)
      simp only [raiseNew]
      refine wpAny_bind (wpAny_bind (wpAny_handled ?_))
      first | rw [show A.in1.handled = none from hh] | rw [hh]
      refine wpAny_throw ?_
      refine wpAny_bind (wpAny_isInstance (T := "StopIteration") (b := true) ⟨_, Heap.get?_push_size _ rfl, rfl⟩ isSubtype_stop ?_)
      exact wpAny_pure (hP s₁ hn hp _ fun b o hb => Heap.get?_push_of_some _ (Heap.get?_push_of_some _ hb))
    · exact wpAny_pure ⟨v, rfl, wpAny_pure (hY v s₁ gs' hb hv)⟩
/-- a generator that has n items before it and leans on the objects kp -/
def GAt (prog : Program) (w : World) (A : Around) (a : Addr) (g : Nat) (kp : List Addr) (base : Heap) (It : Nat → Value → Heap → Heap → Prop) (n : Nat) (s : Shared) : Prop :=
  s.heap.IsGen a g ∧ (∀ b ∈ kp, ∃ o, s.heap.get? b = some o) ∧ ∃ gs, s.gens[g]? = some gs ∧ ∀ s'' : Shared, Keep base s''.heap → (∀ b ∈ kp, ∀ o, s.heap.get? b = some o → s''.heap.get? b = some o) →
    ∃ fp wr, (∀ b ∈ wr, b ∈ fp) ∧ (∀ b ∈ fp, b ∈ kp ∨ s''.heap.get? b = none) ∧ gs.Goes (model prog w) A.in1 (GR wr) (GY fp wr base It) n (.send .none) s''
theorem GAt.keeps {a : Addr} {g n : Nat} {s' : Shared} (x : GAt prog w A a g kp base It n s) (ha : ∀ o, s.heap.get? a = some o → s'.heap.get? a = some o) (hC : ∀ b ∈ kp, ∀ o, s.heap.get? b = some o → s'.heap.get? b = some o) (hg : ∀ y, s.gens[g]? = some y → s'.gens[g]? = some y) : GAt prog w A a g kp base It n s' := by
  obtain ⟨⟨o, f, r, h1, h2⟩, hk, gs, h3, h4⟩ := x
  exact ⟨⟨o, f, r, ha _ h1, h2⟩, fun b hb => let ⟨o, e⟩ := hk b hb; ⟨o, hC b hb o e⟩, gs, hg _ h3, fun s'' hb hc => h4 s'' hb fun b hb' o e => hc b hb' o (hC b hb' o e)⟩
theorem gens_set {s : Shared} {g : Nat} {x : GenState} {gs : GenState} (h : s.gens[g]? = some gs) : (s.setGen g x).gens[g]? = some x := setGen_self h
theorem gens_other {s : Shared} {g k : Nat} {x : GenState} (hk : k ≠ g) : (s.setGen g x).gens[k]? = s.gens[k]? := by
  unfold Shared.setGen
  rw [Array.getElem?_setIfInBounds_ne (Ne.symm hk)]
theorem gens_size {s : Shared} {g : Nat} {x : GenState} : (s.setGen g x).gens.size = s.gens.size := by
  unfold Shared.setGen
  rw [Array.size_setIfInBounds]
theorem gat_next {a : Addr} {g n : Nat} {Q : Option Value → Shared → Prop} (hh : A.handled = none) (hl : s.heap.NoLimit) (hroom : A.depth < recursionLimit) (x : GAt prog w A a g kp base It n s) (hb : Keep base s.heap) (haC : a ∉ kp) (hC0 : ∀ b ∈ kp, base.get? b = none)
    (item : ∀ m v s' fp, n = m + 1 → It m v s.heap s'.heap → (∀ b ∈ fp, b ∈ kp ∨ s.heap.get? b = none) → GAt prog w A a g fp base It m s' → (∀ b o, b ∉ fp → s.heap.get? b = some o → s'.heap.get? b = some o) → GenOnlyQ g s.gens s'.gens → s'.drawn = s.drawn → s'.os = s.os → Q (some v) s')
    (done : ∀ s', n = 0 → (∀ b o, b ∉ kp → s.heap.get? b = some o → s'.heap.get? b = some o) → GenOnlyQ g s.gens s'.gens → s'.drawn = s.drawn → s'.os = s.os → Q none s') :
    wpAny (model prog w) A (pyNext (.ref a)) Q E s := by
  obtain ⟨hg, hex, gs, hgs, hgo⟩ := id x
  have only : ∀ (s₁ : Shared) (y : GenState), y.bare = true → s₁.gens = (s.setGen g .running).gens → GenOnlyQ g s.gens (s₁.setGen g y).gens := fun s₁ y hy e =>
    GenOnlyQ.of (y := y) ⟨by rw [gens_size, e, gens_size], fun k hk => by rw [gens_other hk, e, gens_other hk]⟩ (gens_set (gs := .running) (by rw [e]; exact gens_set hgs)) hy
  obtain ⟨fp, wr, hsub, hfp, hgo⟩ := hgo (s.setGen g .running) hb fun _ _ o e => e
  have hfp' : ∀ b ∈ fp, b ∈ kp ∨ s.heap.get? b = none := hfp
  have hafp : a ∉ fp := fun h => by
    rcases hfp' a h with h | h
    · exact haC h
    · obtain ⟨o, _, _, h1, _⟩ := hg; rw [h] at h1; cases h1
  have hbfp : ∀ b ∈ fp, base.get? b = none := fun b hm => by
    rcases hfp' b hm with h | h
    · exact hC0 b h
    · cases q : base.get? b with
      | none => rfl
      | some o => have := hb b o q; rw [h] at this; cases this
  refine next_gen (base := base) (fp := fp) (wr := wr) (It := It) hh hl hroom hg hgs hgo (fun v s₁ gs' hb' hy => ?_) (fun s₁ hn hs h' hk => ?_)
  · obtain ⟨hit, hs, hex', hres⟩ := hy
    cases n with
    | zero =>
      exfalso
      refine hres s₁ (fun b o e => hs.heap b o (fun hm => ?_) (hb b o e)) (fun _ _ o e => e)
      rw [hbfp b (hsub b hm)] at e; cases e
    | succ m =>
      refine item m v _ fp rfl hit hfp' ⟨?_, hex', gs', gens_set (gs := .running) (by rw [hs.gens]; exact gens_set hgs), fun s'' h1 h2 => ⟨fp, wr, hsub, fun b hm => .inl hm, hres s'' h1 h2⟩⟩ (fun b o n e => hs.heap b o (fun hm => n (hsub b hm)) e) (only _ _ hb' hs.gens) hs.drawn hs.os
      obtain ⟨o, f, r, h1, h2⟩ := hg
      exact ⟨o, f, r, hs.heap _ _ (fun hm => hafp (hsub a hm)) h1, h2⟩
  · subst hn
    refine done _ rfl (fun b o n e => hk b o (hs.heap b o (fun hm => ?_) e)) (only _ _ rfl hs.gens) hs.drawn hs.os
    rcases hfp' b (hsub b hm) with h | h
    · exact n h
    · rw [h] at e; cases e
end
section
variable {prog : Program} {w : World} {A : Around} {E : Value → Shared → Prop} {Q : Flow → Shared → Prop} {s : Shared} {env : Env} {h₀ : Heap} {It : Nat → Value → Heap → Heap → Prop} {target : Expr} {body : List Stmt}
/-- a for loop over a generator -/
theorem gfor {a : Addr} {g N : Nat} {kp : List Addr} {m₀ : Str → Option Value} {news : List (Addr × Obj)} (J : Nat → (Str → Option Value) → List (Addr × Obj) → Array GenState → Prop)
    (hh : A.handled = none) (hroom : A.depth < recursionLimit) (hl : h₀.NoLimit) (x : GAt prog w A a g kp h₀ It N s) (hC0 : ∀ b ∈ a :: kp, h₀.get? b = none) (hLk : env.locals ∉ a :: kp) (haC : a ∉ kp)
    (F : Fr h₀ env.locals s.heap m₀) (N₀ : News h₀ env.locals s.heap news) (hfp : ∀ p ∈ news, p.1 ∉ a :: kp) (hj : J N m₀ news s.gens) (hb : AllBare s.gens)
    (hgo : ∀ (s' : Shared) v (Q' : Unit → Shared → Prop), s'.heap.IsGen a g → Q' () s' → wpAny (model prog w) A (letOwnedTupleGo target (.ref a) v) Q' E s')
    (hE : PassesOwn (model prog w) A env E)
    (hJg : ∀ i m nx gs gs', J i m nx gs → GenOnlyQ g gs gs' → J i m nx gs')
    (turn : ∀ i v m₁ nx hb' h tk gs own kp, It i v hb' h → Fr h₀ env.locals hb' m₁ → AllBare gs → OwnOff own (nx.map (·.1)) → (∀ p ∈ nx, p.1 ∉ a :: kp) → (∀ b ∈ a :: kp, ∃ o, (b, o) ∈ own) → (∀ p ∈ own, p.1 ∈ a :: kp) → J (i + 1) m₁ nx gs → Fr h₀ env.locals h m₁ → News h₀ env.locals h (nx ++ own) → News h₀ env.locals hb' nx →
      wpAny (model prog w) A (assign target env v) (fun _ s₂ => wpAny (model prog w) A (execs body env) (GPost h₀ env.locals (a :: kp) own (fun m' nx' gs' => J i m' nx' gs' ∧ GX gs gs') s.drawn s.os Q) E s₂) E { heap := h, gens := gs, drawn := s.drawn, toks := tk, os := s.os })
    (done : ∀ m₁ nx h tk gs, AllBare gs → J 0 m₁ nx gs → Fr h₀ env.locals h m₁ → News h₀ env.locals h nx → Q .next { heap := h, gens := gs, drawn := s.drawn, toks := tk, os := s.os }) :
    GLoop prog w A env target body [] Q E (.ref a) s := by
  unfold GLoop
  refine codeAny_forLoop_any
    (fun k s' => ∃ kp h' tk' g' m' nx, s' = { heap := h', gens := g', drawn := s.drawn, toks := tk', os := s.os } ∧ GAt prog w A a g kp h₀ It k s' ∧ (∀ b ∈ a :: kp, h₀.get? b = none) ∧ env.locals ∉ a :: kp ∧ a ∉ kp ∧ Fr h₀ env.locals h' m' ∧ News h₀ env.locals h' nx ∧ (∀ p ∈ nx, p.1 ∉ a :: kp) ∧ AllBare g' ∧ J k m' nx g') ?_ N
    ⟨kp, s.heap, s.toks, s.gens, m₀, news, rfl, x, hC0, hLk, haC, F, N₀, hfp, hb, hj⟩
  rintro k s' ⟨kp, h', tk', g', m', nx, rfl, x', hC0, hLk, haC, F', N', hfp', hb', hJ⟩
  have move : ∀ (h₁ : Heap) (kp' : List Addr), (∀ b o, b ∉ kp' → h'.get? b = some o → h₁.get? b = some o) → (∀ b ∈ kp', b ∈ kp ∨ h'.get? b = none) → Fr h₀ env.locals h₁ m' ∧ News h₀ env.locals h₁ nx := fun h₁ kp' hk hn => by
    have off : ∀ b o, h'.get? b = some o → b ∉ kp → b ∉ kp' := fun b o e n hm => by
      rcases hn b hm with h | h
      · exact n h
      · rw [h] at e; cases e
    refine ⟨⟨F'.ns.at' fun o e => hk _ o (off _ o e fun h => hLk (.tail _ h)) e, fun b o e => hk b o (off b o (F'.keep b o e) fun h => ?_) (F'.keep b o e), F'.above⟩, fun p hp => ⟨hk _ _ (off _ _ (N' p hp).1 fun h => hfp' p hp (.tail _ h)) (N' p hp).1, (N' p hp).2⟩⟩
    rw [hC0 b (.tail _ h)] at e; cases e
  refine gat_next hh (hl.keeps F'.keep) hroom x' F'.keep haC (fun b hb => hC0 b (.tail _ hb)) (fun m v s₁ kp' hk hit hn y hmove hgens hd hos => ?_) (fun s₁ hk hmove hgens hd hos => ?_)
  · obtain ⟨h₁, g₁, d₁, tk₁, os₁⟩ := s₁
    cases hd
    cases hos
    obtain ⟨F₁, N₁⟩ := move h₁ kp' hmove hn
    have hb₁ : AllBare g₁ := hgens.bare hb'
    have hag : ∃ o, h'.get? a = some o := let ⟨⟨o, _, _, h1, _⟩, _⟩ := x'; ⟨o, h1⟩
    have new0 : ∀ b ∈ a :: kp', h₀.get? b = none := fun b hb => by
      rcases List.mem_cons.mp hb with rfl | hb
      · exact hC0 b (.head _)
      · rcases hn b hb with h | h
        · exact hC0 b (.tail _ h)
        · cases q : h₀.get? b with
          | none => rfl
          | some o => have := F'.keep b o q; rw [show h'.get? b = none from h] at this; cases this
    have newL : env.locals ∉ a :: kp' := fun hb => by
      rcases List.mem_cons.mp hb with e | hb
      · exact hLk (by rw [e]; exact .head _)
      · rcases hn _ hb with h | h
        · exact hLk (.tail _ h)
        · obtain ⟨o, _, _, h1, _⟩ := F'.ns; rw [show h'.get? env.locals = none from h] at h1; cases h1
    have newA : a ∉ kp' := fun hb => by
      rcases hn _ hb with h | h
      · exact haC h
      · obtain ⟨o, h1⟩ := hag; rw [show h'.get? a = none from h] at h1; cases h1
    have newN : ∀ p ∈ nx, p.1 ∉ a :: kp' := fun p hp hb => by
      rcases List.mem_cons.mp hb with e | hb
      · exact hfp' p hp (by rw [e]; exact .head _)
      · rcases hn _ hb with h | h
        · exact hfp' p hp (.tail _ h)
        · have := (N' p hp).1; rw [show h'.get? p.1 = none from h] at this; cases this
    have Nown : News h₀ env.locals h₁ (ownOf h₀ (a :: kp') h₁) := news_ownOf newL
    refine wpAny_passesOwn hE (hgo _ v _ y.1 ?_)
    subst hk
    have ex : ∀ b ∈ a :: kp', ∃ o, (b, o) ∈ ownOf h₀ (a :: kp') h₁ := fun b hb => by
      have he : ∃ o, h₁.get? b = some o := by
        rcases List.mem_cons.mp hb with rfl | hb
        · obtain ⟨⟨o, _, _, h1, _⟩, _⟩ := y; exact ⟨o, h1⟩
        · exact y.2.1 b hb
      obtain ⟨o, e⟩ := he
      exact ⟨o, mem_ownOf hb (new0 b hb) e⟩
    refine wpAny_passesOwn hE (wpAny_mono (turn m v m' nx h' h₁ tk₁ g₁ (ownOf h₀ (a :: kp') h₁) kp' hit F' hb₁ (fun p hp b hb e => ?_) newN ex ownOf_sub (hJg _ _ _ _ _ hJ hgens) F₁ (N₁.append Nown) N') (fun _ s₂ h₂ => wpAny_passesOwn hE (wpAny_mono h₂ (fun f s₃ h₃ => ?_) fun _ _ e => e)) fun _ _ e => e)
    · obtain ⟨q, hq, rfl⟩ := List.mem_map.mp hb
      exact newN q hq (e ▸ ownOf_sub p hp)
    · have fin : GEnd h₀ env.locals (a :: kp') (ownOf h₀ (a :: kp') h₁) (fun m' nx' gs' => J m m' nx' gs' ∧ GX g₁ gs') s.drawn s.os s₃ → ∃ k, k < m + 1 ∧ ∃ kp h' tk' g' m' nx, s₃ = { heap := h', gens := g', drawn := s.drawn, toks := tk', os := s.os } ∧ GAt prog w A a g kp h₀ It k s₃ ∧ (∀ b ∈ a :: kp, h₀.get? b = none) ∧ env.locals ∉ a :: kp ∧ a ∉ kp ∧ Fr h₀ env.locals h' m' ∧ News h₀ env.locals h' nx ∧ (∀ p ∈ nx, p.1 ∉ a :: kp) ∧ AllBare g' ∧ J k m' nx g' := by
        rintro ⟨h₂', tk₂, g₂, m₂, nx₂, rfl, F₂, N₂, hf₂, hJ₂, gx⟩
        have kk : ∀ b ∈ a :: kp', ∀ o, h₁.get? b = some o → h₂'.get? b = some o := fun b hb o e => (N₂ _ (List.mem_append_right _ (mem_ownOf hb (new0 b hb) e))).1
        exact ⟨m, Nat.lt_succ_self _, kp', h₂', tk₂, g₂, m₂, nx₂, rfl, y.keeps (fun o e => kk a (.head _) o e) (fun b hb o e => kk b (.tail _ hb) o e) (fun z e => gx.old _ _ e), new0, newL, newA, F₂, fun p hp => N₂ p (List.mem_append_left _ hp), hf₂, gx.bare hb₁, hJ₂⟩
      cases f with
      | next => exact fin h₃
      | cont => exact fin h₃
      | brk => exact h₃
      | ret v => exact h₃
  · obtain ⟨h₁, g₁, d₁, tk₁, os₁⟩ := s₁
    cases hd
    cases hos
    obtain ⟨F₁, N₁⟩ := move h₁ kp hmove fun b hb => .inl hb
    subst hk
    exact wpAny_execs_nil (done m' nx h₁ tk₁ g₁ (hgens.bare hb') (hJg _ _ _ _ _ hJ hgens) F₁ N₁)
end
end Mine
end
section
open PySem PySem.W PySem.W.X PySem.Calls PyProof.Rows
namespace Mine
section
variable {w : World} {A : Around} {s : Shared} {R : Result → Shared → Prop} {name qual : Str} {params : Arguments} {body : List Stmt} {scope : Scope} {dV kV doc pm cdv ct oc : Value} {an od : Option Addr} {osl : Array (Option Value)} {f : Addr} {args : Args} {binds : List (Str × Value)}
/-- a generator function called: the generator, not yet begun -/
theorem pEnterG (X : (hd.heap_39 w.params).In s.heap) (hlim : s.heap.NoLimit) (ho : (hd.heap_39 w.params).lookup f = some ⟨oc, od, .func (fnOf name qual params body scope dV kV doc pm an cdv ct), osl⟩) (hcd : codeIn (hd.heap_39 w.params) cdv qual = true) (hroom : A.depth < recursionLimit)
    (hbind : BindsTo s (fnOf name qual params body scope dV kV doc pm an cdv ct) args binds) (hloc : ∀ y ∈ binds, scope.names.lookup y.1 = some .local)
    (h : ∀ (h₁ : Heap) (C a : Addr) (tk : Nat) (gs : GenState), Keep s.heap h₁ → h₁.Ns C (fun y => binds.reverse.lookup y) → s.heap.objs.size ≤ C → C < a → h₁.IsGen a s.gens.size → s.heap.get? C = none → s.heap.get? a = none → gs = .fresh (.func body (envOf qual scope C f cdv)) →
      R (.ok (.ret (.ref a))) { heap := h₁, gens := s.gens.push gs, drawn := s.drawn, toks := tk, os := s.os })
    (hco : scope.isCoroutine = false) (hgen : scope.isGenerator = true) (hk : scope.kind = .function)
    (hcell : ∀ x ∈ scope.names, x.2 ≠ .cell) : codeAny (model PySem.Challenge.rw_ey0021_01.row.prog w) A (.call (.ref f) args) R s := by
  refine codeAny_call_generator hroom (X _ _ ho) rfl hco hgen rfl (codeRec_of X hcd) (hbind _ _ _ _ ?_)
  refine wpAny_newFunctionEnv hcell hloc (fun h₀ hns hsb => ⟨hlim.fresh _ hsb, ?_⟩) hk
  have kp : Keep s.heap h₀ := fun b o e => hsb.extBut b o (Nat.ne_of_lt (Heap.lt_size e)) (Heap.get?_push_of_some _ e)
  have hsz : h₀.objs.size = s.heap.objs.size + 1 := by rw [hsb.1, Heap.size_push]
  refine h _ s.heap.objs.size _ _ _ (Keep.trans kp fun b o e => Heap.get?_push_of_some _ e) (hns.push _) (Nat.le_refl _) ?_ ⟨_, _, _, Heap.get?_push_size _ rfl, rfl, rfl, rfl⟩ (Heap.get?_none_of_le (Nat.le_refl _)) (Heap.get?_none_of_le ?_) rfl
  · show s.heap.objs.size < h₀.objs.size
    omega
  · show s.heap.objs.size ≤ h₀.objs.size
    omega
end
end Mine
end
section
open PySem PySem.W PySem.W.X PySem.Calls PyProof.Rows
namespace Mine
local macro_rules | `(tactic| k_room) => `(tactic| ((try simp only [depth_under_make, depth_under_kw, depth_in1, depth_deeper, depth_caller]); (simp only [recursionLimit] at *); omega))
local macro_rules | `(tactic| cell_enter) => `(tactic| first
  | (refine' pEnter [] ?k1 ?k2 ?k6 ?k7 ?k8 ?k9 ?kB ?_ ?c2 ?c3 ?c4 ?c5; (case k1 => k_asm); (case k2 => exact TopRead.nolimit (by assumption)); (case k6 => k_is); (case k7 => k_is); (case k8 => k_room); (case k9 => first | exact BindsTo.of_eq rfl | exact binds_K (by k_in) rfl (by k_is) rfl rfl rfl | fail "no rule for these arguments"); (case c5 => decide); (case kB => exact locs rfl); (case c2 => exact rfl); (case c3 => exact rfl); (case c4 => exact rfl); k_whole; intro h₁ L₁ hL₁ F₁ K₁; (rw [hideNil] at F₁); (have N₁ := newsNil F₁); (try dsimp only); (try k_fold))
  | (refine' pEnterC [] ?k1 ?k2 ?k6 ?k7 ?k8 ?k9 ?kB ?kD ?_ ?c2 ?c3 ?c4; (case k1 => k_asm); (case k2 => exact TopRead.nolimit (by assumption)); (case k6 => k_is); (case k7 => k_is); (case k8 => k_room); (case k9 => first | exact BindsTo.of_eq rfl | exact binds_K (by k_in) rfl (by k_is) rfl rfl rfl | fail "no rule for these arguments"); (case kB => exact rfl); (case kD => decide +kernel); (case c2 => exact rfl); (case c3 => exact rfl); (case c4 => exact rfl); k_whole; intro h₁ L₁ tk₁ cells₁ hL₁ F₁ N₁ Y₁ K₁ C₁; (rw [hideNil] at F₁ N₁); k_cells Y₁; (try simp only [List.cons_append, List.nil_append] at N₁); (try dsimp only); (try k_fold)))

theorem News.add {h₀ h h' : Heap} {L d : Addr} {m : Str → Option Value} {nx : List (Addr × Obj)} {o : Obj} (F : Fr h₀ L h m) (z : h.get? d = none) (e : h'.get? d = some o) (N : News h₀ L h' nx) : News h₀ L h' ((d, o) :: nx) := fun p hp => by
  rcases List.mem_cons.mp hp with rfl | hp
  · refine ⟨e, fun q => ?_, ?_⟩
    · obtain ⟨o', _, _, h1, _⟩ := F.ns
      have q' : d = L := q
      rw [← q', z] at h1; cases h1
    · cases q : h₀.get? d with
      | none => rfl
      | some o' => have := F.keep _ _ q; rw [z] at this; cases this
  · exact N p hp
theorem News.fresh {h₀ h h' : Heap} {L d : Addr} {m : Str → Option Value} {nx : List (Addr × Obj)} {o : Obj} (F : Fr h₀ L h m) (N : News h₀ L h nx) (k : Keep h h') (z : h.get? d = none) (e : h'.get? d = some o) : News h₀ L h' ((d, o) :: nx) := fun p hp => by
  rcases List.mem_cons.mp hp with rfl | hp
  · refine ⟨e, fun q => ?_, ?_⟩
    · obtain ⟨o', _, _, h1, _⟩ := F.ns
      have q' : d = L := q
      rw [← q', z] at h1; cases h1
    · cases q : h₀.get? d with
      | none => rfl
      | some o' => have := F.keep _ _ q; rw [z] at this; cases this
  · exact ⟨k _ _ (N p hp).1, (N p hp).2⟩
def allBut (base : Heap) (C : Addr) (h : Heap) : List (Addr × Obj) := ownOf base ((List.range h.objs.size).filter fun b => b != C) h
theorem allBut_news {base h : Heap} {C : Addr} : News base C h (allBut base C h) := news_ownOf (fun hm => by simpa using (List.mem_filter.mp hm).2)
theorem allBut_keep {base h h' : Heap} {C : Addr} {m : Str → Option Value} {nx : List (Addr × Obj)} (F0 : Keep base h) (F : Fr base C h' m) (N : News base C h' nx) (hs : ∀ p ∈ allBut base C h, p ∈ nx) : ∀ b o, b ≠ C → h.get? b = some o → h'.get? b = some o := fun b o n e => by
  cases q : base.get? b with
  | some o' =>
    have := F0 b o' q
    rw [e] at this
    cases this
    exact F.keep b o q
  | none => exact (N (b, o) (hs _ (mem_ownOf (List.mem_filter.mpr ⟨List.mem_range.mpr (Heap.lt_size e), by simpa using n⟩) q e))).1
theorem allBut_fresh {base h : Heap} {C D : Addr} (z : base.get? D = none) (n : D ≠ C) (l : ∀ p ∈ allBut base C h, p.1 < D) : h.get? D = none := by
  cases q : h.get? D with
  | none => rfl
  | some o => exact absurd (l (D, o) (mem_ownOf (List.mem_filter.mpr ⟨List.mem_range.mpr (Heap.lt_size q), by simpa using n⟩) z q)) (Nat.lt_irrefl _)
theorem cnt_pre (q : Nat → Bool) (t : Array Nat) : ∀ (i p : Nat), i < cnt q t p → p + i < t.size ∧ q (t.getD (p + i) 0) = true
  | 0, p, h => by
    rcases Nat.lt_or_ge p t.size with hp | hp
    · rw [cnt_step q hp] at h
      cases hq : q (t.getD p 0) with
      | true => exact ⟨hp, by simpa using hq⟩
      | false => rw [hq] at h; simp at h
    · rw [cnt_end q hp] at h; omega
  | i + 1, p, h => by
    rcases Nat.lt_or_ge p t.size with hp | hp
    · rw [cnt_step q hp] at h
      cases hq : q (t.getD p 0) with
      | true =>
        rw [hq] at h
        simp only [if_true] at h
        have := cnt_pre q t i (p + 1) (by omega)
        rw [show p + (i + 1) = p + 1 + i by omega]; exact this
      | false => rw [hq] at h; simp at h
    · rw [cnt_end q hp] at h; omega
theorem no_word {t : Array Nat} {p : Nat} (h : cnt nsp t (p + cnt isp t p) = 0) : ∀ j, j ≤ cnt isp t p → cnt nsp t (p + cnt isp t p - j) = 0 := fun j hj => by
  rcases Nat.eq_zero_or_pos j with rfl | hj0
  · exact h
  · obtain ⟨h1, h2⟩ := cnt_pre isp t (cnt isp t p - j) p (by omega)
    rw [show p + cnt isp t p - j = p + (cnt isp t p - j) by omega, cnt_step nsp h1]
    have : nsp (t.getD (p + (cnt isp t p - j)) 0) = false := by
      have h3 : (t.getD (p + (cnt isp t p - j)) 0 == 32) = true := h2
      unfold nsp; rw [h3]; rfl
    rw [this]; rfl
/-- the end of the word that begins at p -/
def wend (t : Array Nat) (p : Nat) : Nat := p + cnt isp t p + cnt nsp t (p + cnt isp t p) + cnt isp t (p + cnt isp t p + cnt nsp t (p + cnt isp t p))
theorem wend_le {t : Array Nat} {p : Nat} (h : p ≤ t.size) : wend t p ≤ t.size := by
  unfold wend
  have h1 := cnt_le isp t p
  have h2 := cnt_le nsp t (p + cnt isp t p)
  have h3 := cnt_le isp t (p + cnt isp t p + cnt nsp t (p + cnt isp t p))
  omega
inductive WordsAt (t : Array Nat) : Nat → List (Nat × Nat) → Prop
  | nil {p} : cnt nsp t (p + cnt isp t p) = 0 → WordsAt t p []
  | cons {p l} : p < t.size → 1 ≤ cnt nsp t (p + cnt isp t p) → WordsAt t (wend t p) l → WordsAt t p ((p, wend t p) :: l)
def tupObj (a b : Nat) (ta tb : Tok) (x : Str) (tx : Tok) : Obj := { cls := .type "tuple", data := .seq #[.int a ta, .int b tb, .str ⟨x.cps.extract a b⟩ tx] }
/-- what `words` yields, m items before the end -/
def WIt (x : Str) (W : List (Nat × Nat)) (m : Nat) (v : Value) (h h' : Heap) : Prop :=
  ∃ d a b ta tb tx, W[W.length - 1 - m]? = some (a, b) ∧ v = .ref d ∧ h'.get? d = some (tupObj a b ta tb x tx) ∧ h.get? d = none
/-- the generator at its loop's test, n words before the end -/
def WInv (x : Str) (t : Tok) (W : List (Nat × Nat)) (base : Heap) (C : Addr) (n : Nat) (s : Shared) : Prop :=
  ∃ p l pre m, W = pre ++ l ∧ l.length = n ∧ WordsAt x.cps p l ∧ p ≤ x.cps.size ∧ Fr base C s.heap m ∧ m (Str.ofString "text") = some (.str x t) ∧
    ((l = [] ∧ m (Str.ofString "word_match") = some .none) ∨ (l ≠ [] ∧ ∃ mo tu, m (Str.ofString "word_match") = some (.ref mo) ∧ News base C s.heap [(mo, matObj x t p x.cps.size tu), (tu, spanObj p (wend x.cps p))]))
section
variable {w : World} {A : Around} {E : Value → Shared → Prop} {s : Shared} {Q : Value → Shared → Prop}
theorem call_spanN {x : Str} {t : Tok} {p n a b : Nat} {mo tu : Addr} {h₀ : Heap} {L : Addr} {nx : List (Addr × Obj)} (N : News h₀ L s.heap nx) (h1 : (mo, matObj x t p n tu) ∈ nx) (h2 : (tu, spanObj a b) ∈ nx)
    (h : ∀ h' d t1 t2 tk, Keep s.heap h' → h'.get? d = some { cls := .type "tuple", data := .seq #[.int a t1, .int b t2] } → s.heap.get? d = none → Q (.ref d) { heap := h', gens := s.gens, drawn := s.drawn, toks := tk, os := s.os }) :
    wpAny (model PySem.Challenge.rw_ey0021_01.row.prog w) A (call (.builtin "re.Match.span") [.ref mo]) Q E s := call_span (N _ h1).1 (N _ h2).1 h
theorem call_groupN {x : Str} {t u : Tok} {p n a b : Nat} {mo tu : Addr} {h₀ : Heap} {L : Addr} {nx : List (Addr × Obj)} (N : News h₀ L s.heap nx) (h1 : (mo, matObj x t p n tu) ∈ nx) (h2 : (tu, spanObj a b) ∈ nx) (hs : x.cps.size < 1000)
    (h : ∀ t1 tk, Q (.str ⟨x.cps.extract a b⟩ t1) { heap := s.heap, gens := s.gens, drawn := s.drawn, toks := tk, os := s.os }) :
    wpAny (model PySem.Challenge.rw_ey0021_01.row.prog w) A (call (.builtin "re.Match.group") [.ref mo, .int 0 u]) Q E s := call_group (N _ h1).1 (N _ h2).1 hs h
theorem m_matN {pl : Sem Bool} {name : Str} {id : String} {mo tu : Addr} {x : Str} {t : Tok} {p n : Nat} {Q : Value × List Value → Shared → Prop} {h₀ : Heap} {L : Addr} {nx : List (Addr × Obj)} (N : News h₀ L s.heap nx) (ho : (mo, matObj x t p n tu) ∈ nx) (slot : Slot "re.Match" name id) (hty : typeOf (.builtin id) = pure (.type "method_descriptor"))
    (h : Q (.builtin id, [.ref mo]) s) : wpAny (model PySem.Challenge.rw_ey0021_01.row.prog w) A (getMethod (.ref mo) name pl) Q E s := m_mat (N _ ho).1 slot hty h
/-- the call of match, whatever it finds -/
theorem call_any {x : Str} {t u : Tok} {p : Nat} {i : Int} (hi : i = (p : Int)) {l : List (Nat × Nat)} (hw : WordsAt x.cps p l) (X : (hd.heap_39 w.params).In s.heap) (hx : okx x) (hs : x.cps.size < 1000) (hp : p ≤ x.cps.size)
    (h0 : l = [] → Q .none s)
    (h1 : ∀ mo tu h', l ≠ [] → Keep s.heap h' → h'.get? mo = some (matObj x t p x.cps.size tu) → h'.get? tu = some (spanObj p (wend x.cps p)) → s.heap.get? mo = none → s.heap.get? tu = none → Q (.ref mo) { heap := h', gens := s.gens, drawn := s.drawn, toks := s.toks, os := s.os }) :
    wpAny (model PySem.Challenge.rw_ey0021_01.row.prog w) A (call (.builtin "re.Pattern.match") [.ref 251, .str x t, .int i u]) Q E s := by
  subst hi
  cases hw with
  | nil h => exact call_none X hx hs hp h (no_word h) (h0 rfl)
  | cons hlt hb ht => exact call_found X hx hs hlt hb fun mo tu h' k e1 e2 z1 z2 => h1 mo tu h' (by simp) k e1 e2 z1 z2
end
structure WEnd (x : Str) (t : Tok) (W : List (Nat × Nat)) (base : Heap) (C : Addr) (n : Nat) (s₀ : Shared) (f : Flow) (s : Shared) : Prop where
  nxt : f = .next
  inv : WInv x t W base C n s
  since : Since C s₀ s
structure TEnd (b₀ : Bool) (s₀ : Shared) (b : Bool) (s : Shared) : Prop where
  eq : b = b₀
  st : ∃ tk, s = { s₀ with toks := tk }
structure W1 (x : Str) (t : Tok) (base : Heap) (C : Addr) (p : Nat) (s₀ : Shared) (f : Flow) (s : Shared) : Prop where
  nxt : f = .next
  fr : ∃ m ta tb tx, Fr base C s.heap m ∧ m (Str.ofString "text") = some (.str x t) ∧ m (Str.ofString "start") = some (.int p ta) ∧ m (Str.ofString "end") = some (.int (wend x.cps p) tb) ∧ m (Str.ofString "word") = some (.str ⟨x.cps.extract p (wend x.cps p)⟩ tx)
  since : Since C s₀ s
structure W2 (x : Str) (t : Tok) (base : Heap) (C : Addr) (p : Nat) (s₀ : Shared) (v : Value) (s : Shared) : Prop where
  tup : ∃ d ta tb tx, v = .ref d ∧ s.heap.get? d = some (tupObj p (wend x.cps p) ta tb x tx) ∧ s₀.heap.get? d = none ∧ d ≠ C
  fr : ∃ m tb, Fr base C s.heap m ∧ m (Str.ofString "text") = some (.str x t) ∧ m (Str.ofString "end") = some (.int (wend x.cps p) tb)
  since : Since C s₀ s
local macro_rules | `(tactic| walk_at "getMethod ref") => `(tactic| (k_here; (with_reducible show wpAny _ _ (getMethod (Value.ref 251) (PySem.Str.ofString "match") _) _ _ _); (rename Fr _ _ _ _ => F9); (refine m_match (Frag.In.keeps (by assumption) (Fr.keep F9)) ?_); (try dsimp only)))
local macro_rules | `(tactic| walk_at "getMethod ref") => `(tactic| (k_here; (with_reducible show wpAny _ _ (getMethod (Value.ref _) (PySem.Str.ofString "span") _) _ _ _); (rename News _ _ _ _ => N9); (k_dflt (refine m_matN N9 (by k_mem) slot_span type_span ?_)); (try dsimp only)))
local macro_rules | `(tactic| walk_at "getMethod ref") => `(tactic| (k_here; (with_reducible show wpAny _ _ (getMethod (Value.ref _) (PySem.Str.ofString "group") _) _ _ _); (rename News _ _ _ _ => N9); (k_dflt (refine m_matN N9 (by k_mem) slot_group type_group ?_)); (try dsimp only)))
local macro_rules | `(tactic| walk_at "call builtin:re.Match.span") => `(tactic| (k_here; (rename Fr _ _ _ _ => F9); (rename News _ _ _ _ => N9); (refine call_spanN N9 (by k_mem) (by k_mem) ?_); (intro h9 d9 t1 t2 tk9 K9 e9 z9); (have N9' := News.fresh F9 N9 K9 z9 e9); (have F9' := Fr.keeps F9 K9); clear F9 N9; (try dsimp only)))
local macro_rules | `(tactic| walk_at "call builtin:re.Match.group") => `(tactic| (k_here; (rename News _ _ _ _ => N9); (refine call_groupN N9 (by k_mem) (by k_mem) (by assumption) ?_); (intro t1 tk9); (try dsimp only)))
theorem c_words (w : World) (mg mb) (x : Str) (t : Tok) (W : List (Nat × Nat)) (hW : WordsAt x.cps 0 W) (hx : okx x) (hlen : x.cps.size < 1000) (dp : Nat) (fr : Option (List Env)) (gd : Option (List Code)) (un : Nat) (s : Shared) (Q E : Value → Shared → Prop)
    (A' : Around) (hA' : A'.handled = none) (base : Heap) (hbase : Keep base s.heap) (hbsz : base.objs.size ≤ s.heap.objs.size) (hKb : (hd.heap_39 w.params).In base) (hTb : TopRead hd.view_39 LP mg mb base)
    (hdp : dp + 4 < 900) (hun : un + 80 < 9000)
    (hret : ∀ a C g h' tk gs, Keep s.heap h' → gs.bare = true → g = s.gens.size → GAt PySem.Challenge.rw_ey0021_01.row.prog w A' a g [C] base (WIt x W) W.length { heap := h', gens := s.gens.push gs, drawn := s.drawn, toks := tk, os := s.os } → s.heap.get? a = none → s.heap.get? C = none → a ≠ C → s.heap.objs.size ≤ C →
      Q (.ref a) { heap := h', gens := s.gens.push gs, drawn := s.drawn, toks := tk, os := s.os }) :
    wpAny (model PySem.Challenge.rw_ey0021_01.row.prog w) (AA dp fr gd un) (call (.ref 258) [.str x t]) Q E s := by
  have hK : (hd.heap_39 w.params).In s.heap := hKb.keeps hbase
  have hT : TopRead hd.view_39 LP mg mb s.heap := hTb.keeps hbase
  revert hK; k_fill; intro hK
  refine wpAny_call ?_
  k_dflt (refine' pEnterG ?k1 ?k2 ?k6 ?k7 ?k8 ?k9 ?kB ?_ ?c2 ?c3 ?c4 ?c5)
  case k1 => k_asm
  case k2 => exact hT.nolimit
  case k6 => k_dflt k_is
  case k7 => k_dflt k_is
  case k8 => k_room
  case k9 => k_dflt (first | exact BindsTo.of_eq rfl | exact binds_K (by k_in) rfl (by k_is) rfl rfl rfl)
  case c5 => decide
  case kB => k_dflt (exact locs rfl)
  case c2 => exact rfl
  case c3 => exact rfl
  case c4 => exact rfl
  intro h₁ C a tk gs k1 hn hC haC hgen hC0 ha0 e
  refine hret a C _ h₁ _ gs k1 (by rw [e]; rfl) rfl ⟨hgen, (fun b hm => by rw [List.mem_singleton.mp hm]; exact (let ⟨o, _, _, h, _⟩ := hn; ⟨o, h⟩)), gs, ?_, fun s'' hb hc' => ⟨[C], [C], fun _ h => h, fun b h => .inl h, ?_⟩⟩ ha0 hC0 (Nat.ne_of_gt haC) hC
  · show (s.gens.push gs)[s.gens.size]? = some gs
    rw [Array.getElem?_push_size]
  · subst e
    refine ⟨rfl, seg_func ?_⟩
    have hc := hc' C (by simp)
    have F₁ : Fr base C s''.heap _ := ⟨hn.at' hc, hb, Nat.le_trans hbsz hC⟩
    obtain ⟨hh, gg, dd, tt, oo⟩ := s''
    have N₁ : News base C hh (allBut base C hh) := allBut_news
    clear hn hc hc' hK hT
    rw [show ∀ a b c d : Stmt, [a, b, c, d] = [a, b, c] ++ [d] from fun _ _ _ _ => rfl, execs_append_wrap]
    refine seg_wrap (wpAny_mono (Q := WEnd x t W base C W.length ⟨hh, gg, dd, tt, oo⟩) (E := fun _ _ => False) ?walk (fun f s1 h => ?tail) (fun _ _ z => z.elim))
    case walk =>
      have hb' : Keep base hh := hb
      k_steps
      rename Fr _ _ _ _ => F9
      rename News _ _ _ _ => N9
      refine call_any (p := 0) rfl hW (hKb.keeps F9.keep) hx hlen (Nat.zero_le _) (fun hl => ?_) (fun mo tu h' hl K9 e1 e2 z1 z2 => ?_)
      · k_steps
        rename Fr _ _ _ _ => F9
        rename News _ _ _ _ => N9
        exact ⟨rfl, ⟨0, [], [], _, hl, by rw [hl], hl ▸ hW, Nat.zero_le _, F9, rfl, .inl ⟨rfl, rfl⟩⟩, ⟨rfl, rfl, rfl, allBut_keep hb' F9 N9 fun p hp => hp, fun _ => let ⟨o, _, _, h, _⟩ := F9.ns; ⟨o, h⟩⟩⟩
      · have N7 := News.add F9 z1 e1 (News.add F9 z2 e2 (News.grown N9 K9))
        have F7 := Fr.keeps F9 K9
        clear F9 N9
        k_steps
        rename Fr _ _ _ _ => F9
        rename News _ _ _ _ => N9
        exact ⟨rfl, ⟨0, W, [], _, rfl, rfl, hW, Nat.zero_le _, F9, rfl, .inr ⟨hl, mo, tu, rfl, fun p hp => N9 p (by
          rcases List.mem_cons.mp hp with rfl | hp
          · exact .head _
          · rw [List.mem_singleton.mp hp]; exact .tail _ (.head _))⟩⟩, ⟨rfl, rfl, rfl, allBut_keep hb' F9 N9 fun p hp => .tail _ (.tail _ hp), fun _ => let ⟨o, _, _, h, _⟩ := F9.ns; ⟨o, h⟩⟩⟩
    case tail =>
      obtain ⟨rfl, hI, hs⟩ := h
      refine seg_execs_cons (seg_While fun p => ?_)
      obtain ⟨_, dA, fA, gA, uA⟩ := A'
      cases hA'
      refine seg_gwhile (b1 := [_, _]) (b2 := [_]) (WInv x t W base C) _ _ ?turn rfl rfl _ rfl rfl rfl (Nat.le_refl _) (Nat.le_refl _) ?rest _ _ _ hI hs
      case turn =>
        clear hI hs hret hbase hb N₁ F₁
        rintro A2 n s2 hA2 _ _ ⟨p, l, pre, m, hWl, hn, hw, hp, F₂, htext, hcase⟩
        obtain ⟨_, dA2, fA2, gA2, uA2⟩ := A2
        cases hA2
        obtain ⟨h2, g2, d2, t2, o2⟩ := s2
        have hb2 : Keep base h2 := F₂.keep
        have F₃ := Fr.know F₂ htext
        have N₃ : News base C h2 (allBut base C h2) := allBut_news
        rcases hcase with ⟨hl, hm⟩ | ⟨hl, mo, tu, hm, Nm⟩
        · have F₄ := Fr.know F₃ (show (fun z => if z = Str.ofString "text" then some (Value.str x t) else m z) (Str.ofString "word_match") = some .none from hm)
          refine wpAny_mono (Q := TEnd false ⟨h2, g2, d2, t2, o2⟩) (E := fun _ _ => False) ?_ (fun b s3 h3 => ?_) (fun _ _ z => z)
          · clear F₂ F₃
            k_steps
            exact ⟨rfl, _, rfl⟩
          · obtain ⟨rfl, tk, rfl⟩ := h3
            rw [if_neg Bool.false_ne_true]
            exact ⟨by rw [← hn, hl]; rfl, ⟨rfl, rfl, rfl, fun _ _ _ e => e, id⟩⟩
        · have F₄ := Fr.know F₃ (show (fun z => if z = Str.ofString "text" then some (Value.str x t) else m z) (Str.ofString "word_match") = some (.ref mo) from hm)
          refine wpAny_mono (Q := TEnd true ⟨h2, g2, d2, t2, o2⟩) (E := fun _ _ => False) ?_ (fun b s3 h3 => ?_) (fun _ _ z => z)
          · clear F₂ F₃
            k_steps
            exact ⟨rfl, _, rfl⟩
          · obtain ⟨rfl, tk, rfl⟩ := h3
            rw [if_pos rfl]
            cases hw with
            | nil _ => exact absurd rfl hl
            | cons hlt hb1 hrest =>
              rename_i l'
              refine ⟨l'.length, by rw [← hn]; rfl, ?_⟩
              have Na : News base C h2 ((mo, matObj x t p x.cps.size tu) :: (tu, spanObj p (wend x.cps p)) :: allBut base C h2) := fun q hq => by
                rcases List.mem_cons.mp hq with rfl | hq
                · exact Nm _ (.head _)
                · rcases List.mem_cons.mp hq with rfl | hq
                  · exact Nm _ (.tail _ (.head _))
                  · exact N₃ q hq
              refine wpAny_mono (Q := W1 x t base C p ⟨h2, g2, d2, tk, o2⟩) (E := fun _ _ => False) ?_ (fun f s4 h4 => ⟨h4.nxt, ?_⟩) (fun _ _ z => z)
              · clear F₂ F₃ N₃ Nm
                k_steps
                rename Fr _ _ _ _ => F9
                rename News _ _ _ _ => N9
                refine ⟨rfl, ⟨_, _, _, _, F9, rfl, rfl, rfl, rfl⟩, ⟨rfl, rfl, rfl, allBut_keep hb2 F9 N9 ?_, fun _ => let ⟨o, _, _, h, _⟩ := F9.ns; ⟨o, h⟩⟩⟩
                intro q hq
                repeat (first | exact hq | refine List.mem_cons_of_mem _ ?_)
              · obtain ⟨_, ⟨m4, ta, tb, tx, F5, e1, e2, e3, e4⟩, hs4⟩ := h4
                obtain ⟨h4, g4, d4, t4, o4⟩ := s4
                have hb4 : Keep base h4 := F5.keep
                have N5 : News base C h4 (allBut base C h4) := allBut_news
                have F6 := Fr.know (Fr.know (Fr.know F5 e2) (show (fun z => if z = Str.ofString "start" then some (Value.int (p : Int) ta) else m4 z) (Str.ofString "end") = _ from e3)) (show (fun z => if z = Str.ofString "end" then some (Value.int (wend x.cps p : Int) tb) else if z = Str.ofString "start" then some (Value.int (p : Int) ta) else m4 z) (Str.ofString "word") = _ from e4)
                refine wpAny_mono (Q := W2 x t base C p ⟨h4, g4, d4, t4, o4⟩) (E := fun _ _ => False) ?_ (fun v s5 h5 => ?_) (fun _ _ z => z)
                · clear F₂ F₃ N₃ Nm F₄ F5
                  k_steps
                  rename Fr _ _ _ _ => F9
                  rename News _ _ _ _ => N9
                  rename_i l9
                  refine ⟨⟨_, _, _, _, rfl, (N9 _ (.head _)).1, ?_, (N9 _ (.head _)).2.1⟩, ⟨_, _, F9, e1, rfl⟩, ⟨rfl, rfl, rfl, allBut_keep hb4 F9 N9 fun q hq => .tail _ hq, fun _ => let ⟨o, _, _, h, _⟩ := F9.ns; ⟨o, h⟩⟩⟩
                  exact allBut_fresh (N9 _ (.head _)).2.2 (N9 _ (.head _)).2.1 l9
                · obtain ⟨⟨d, tta, ttb, ttx, rfl, ed, zd, nd⟩, ⟨m5, tc, F5', e5, e6⟩, hs5⟩ := h5
                  refine ⟨fun s₀ hs₀ => ⟨d, p, wend x.cps p, tta, ttb, ttx, ?_, rfl, ed, ?_⟩, Since.trans (Since.trans (show Since C ⟨h2, g2, d2, t2, o2⟩ ⟨h2, g2, d2, tk, o2⟩ from ⟨rfl, rfl, rfl, fun _ _ _ e => e, id⟩) hs4) hs5, (let ⟨o, _, _, h, _⟩ := F5'.ns; ⟨o, h⟩), fun s6 hb6 hc6 => ?_⟩
                  · rw [hWl]
                    simp
                  · cases q : s₀.heap.get? d with
                    | none => rfl
                    | some o =>
                      have h1 := hs₀.heap d o nd q
                      have h2' := hs4.heap d o nd h1
                      rw [zd] at h2'; cases h2'
                  · obtain ⟨h6, g6, d6, t6, o6⟩ := s6
                    have F6' : Fr base C h6 m5 := ⟨F5'.ns.at' hc6, hb6, F5'.above⟩
                    have N6 : News base C h6 (allBut base C h6) := allBut_news
                    have F7 := Fr.know (Fr.know F6' e5) (show (fun z => if z = Str.ofString "text" then some (Value.str x t) else m5 z) (Str.ofString "end") = _ from e6)
                    have hb6' : Keep base h6 := hb6
                    refine wpAny_mono (Q := WEnd x t W base C l'.length ⟨h6, g6, d6, t6, o6⟩) (E := fun _ _ => False) ?_ (fun f s7 h7 => ⟨h7.nxt, h7.inv, h7.since⟩) (fun _ _ z => z)
                    clear F₂ F₃ N₃ Nm F₄ F5 F6 F5' F6'
                    k_steps
                    rename Fr _ _ _ _ => F9
                    rename News _ _ _ _ => N9
                    have hwl := wend_le hp
                    refine call_any (p := wend x.cps p) rfl hrest (hKb.keeps F9.keep) hx hlen hwl (fun hl => ?_) (fun mo tu h' hl K9 z1 z2 y1 y2 => ?_)
                    · k_steps
                      rename Fr _ _ _ _ => F9
                      rename News _ _ _ _ => N9
                      exact ⟨rfl, ⟨wend x.cps p, l', pre ++ [(p, wend x.cps p)], _, by rw [hWl]; simp, rfl, hrest, hwl, F9, rfl, .inl ⟨hl, rfl⟩⟩, ⟨rfl, rfl, rfl, allBut_keep hb6' F9 N9 fun p hp => hp, fun _ => let ⟨o, _, _, h, _⟩ := F9.ns; ⟨o, h⟩⟩⟩
                    · have N7 := News.add F9 y1 z1 (News.add F9 y2 z2 (News.grown N9 K9))
                      have F7 := Fr.keeps F9 K9
                      clear F9 N9
                      k_steps
                      rename Fr _ _ _ _ => F9
                      rename News _ _ _ _ => N9
                      exact ⟨rfl, ⟨wend x.cps p, l', pre ++ [(p, wend x.cps p)], _, by rw [hWl]; simp, rfl, hrest, hwl, F9, rfl, .inr ⟨hl, mo, tu, rfl, fun p hp => N9 p (by
                        rcases List.mem_cons.mp hp with rfl | hp
                        · exact .head _
                        · rw [List.mem_singleton.mp hp]; exact .tail _ (.head _))⟩⟩, ⟨rfl, rfl, rfl, allBut_keep hb6' F9 N9 fun p hp => .tail _ (.tail _ hp), fun _ => let ⟨o, _, _, h, _⟩ := F9.ns; ⟨o, h⟩⟩⟩
      case rest =>
        intro s₀ s₁ hs
        exact seg_leaf (r := .ok .next) (seg_end (r := .ok (.ret .none)) ⟨rfl, rfl, hs.toW⟩)

end Mine
end
section
open PySem PySem.W PySem.W.X PySem.Calls PyProof.Rows
namespace Mine
section
variable {prog : Program} {w : World} {A : Around} {R : GenEnd} {Y : Protocol} {n : Nat} {s₀ : Shared} {c : Code} {fs : List PySem.Frame} {s : Shared} {env : Env} {K : Flow → Sem Fin} {H : Value → Sem Fin} {gd : Bool → Bool} {lv : List Value → List Value}
theorem seg_For {M : Model} {target iter : Expr} {body : List Stmt} {pos : Pos} (hs : ∀ x, foldedSetIterable iter env x = pure x)
    (h : wpAny M (A.over c fs) (eval iter env) (fun x s1 => wpAny M (A.over c fs) (pyIter x) (fun it s2 => ∀ p, Seg M A R Y n s₀ (.forLoop target it body [] env) (M.den (.forLoop target it body [] env))
      (.ret (fun r => ((match r with | .ok f => (.pure f : Sem Flow) | .error e => .raise e).onRaise fun (x : Value) => do
        if (← field x 1) == Value.none then unsupported "frame.own-activation:exception-without-traceback"
        setFlight x env.frame).wrap K H gd lv) none (gd false) (lv []) c p [] :: fs) s2) (fun _ _ => False) s1) (fun _ _ => False) s) :
    Seg M A R Y n s₀ c ((exec (.For target iter body [] pos) env).wrap K H gd lv) fs s := by
  rw [exec_For]
  refine seg_at ?_
  show Seg M A R Y n s₀ c (Sem.wrap K H gd lv (eval iter env >>= _)) fs s
  rw [Sem.bind_eq_wrap', Sem.wrap_wrap]
  refine seg_wrap (wpAny_mono h (fun x s1 h1 => ?_) fun _ _ z => z.elim)
  show Seg M A R Y n s₀ c (Sem.wrap K H gd lv (foldedSetIterable iter env x >>= _)) fs s1
  rw [hs x]
  refine seg_at ?_
  show Seg M A R Y n s₀ c (Sem.wrap K H gd lv (holding [x] (pyIter x) >>= _)) fs s1
  rw [Sem.bind_eq_wrap', Sem.wrap_wrap]
  refine seg_wrap (wpAny_holding (wpAny_mono h1 (fun it s2 h2 => ?_) fun _ _ z => z.elim))
  exact seg_call h2
theorem seg_forLoop {target : Expr} {it : Value} {body : List Stmt}
    (h : wpAny (model prog w) (A.over (.forLoop target it body [] env) fs) (pyNext it) (fun r s1 => match r with
      | none => Seg (model prog w) A R Y n s₀ (.forLoop target it body [] env) (.pure (.again (.block [] env))) fs s1
      | some v => wpAny (model prog w) (A.over (.forLoop target it body [] env) fs) (letOwnedTupleGo target it v) (fun _ s2 => wpAny (model prog w) (A.over (.forLoop target it body [] env) fs) (assign target env v) (fun _ s3 =>
          Seg (model prog w) A R Y n s₀ (.forLoop target it body [] env) ((execs body env).wrap (fun f => match f with
            | .next | .cont => .pure (.again (.forLoop target it body [] env))
            | .brk => .pure (.done .next)
            | .ret v => .pure (.done (.ret v))) (fun e => (do noteFrame e env; theTreesLotGoes e : Sem Unit).wrap (fun _ => .raise e) .raise id id) id id) fs s3) (fun _ _ => False) s2) (fun _ _ => False) s1) (fun _ _ => False) s) :
    Seg (model prog w) A R Y n s₀ (.forLoop target it body [] env) ((model prog w).den (.forLoop target it body [] env)) fs s := by
  show Seg _ A R Y n s₀ _ ((forTurn target it body [] env).onRaise (fun x => do noteFrame x env; theTreesLotGoes x)) fs s
  unfold forTurn
  rw [Sem.onRaise_eq_wrap, Sem.bind_eq_wrap', Sem.wrap_wrap]
  refine seg_wrap (wpAny_standAt ?_)
  show Seg _ A R Y n s₀ _ (Sem.wrap _ _ _ _ (((pyNext it).onRaise _) >>= _)) fs s
  rw [Sem.bind_eq_wrap', Sem.wrap_wrap]
  refine seg_wrap (wpAny_onRaise (wpAny_mono h (fun r s1 h1 => ?_) fun _ _ z => z.elim))
  cases r with
  | none => exact h1
  | some v =>
    show Seg _ A R Y n s₀ _ (Sem.wrap _ _ _ _ (letOwnedTupleGo target it v >>= _)) fs s1
    rw [Sem.bind_eq_wrap', Sem.wrap_wrap]
    refine seg_wrap (wpAny_mono h1 (fun _ s2 h2 => ?_) fun _ _ z => z.elim)
    show Seg _ A R Y n s₀ _ (Sem.wrap _ _ _ _ (assign target env v >>= _)) fs s2
    rw [Sem.bind_eq_wrap', Sem.wrap_wrap]
    refine seg_wrap (wpAny_mono h2 (fun _ s3 h3 => ?_) fun _ _ z => z.elim)
    show Seg _ A R Y n s₀ _ (Sem.wrap _ _ _ _ (execs body env >>= _)) fs s3
    rw [Sem.bind_eq_wrap', Sem.wrap_wrap]
    rw [Sem.wrap_congr (execs body env) _ _ (K' := fun f => match f with
            | .next | .cont => .pure (.again (.forLoop target it body [] env))
            | .brk => .pure (.done .next)
            | .ret v => .pure (.done (.ret v))) (H' := (fun e => (do noteFrame e env; theTreesLotGoes e : Sem Unit).wrap (fun _ => .raise e) .raise id id))
        (fun f => by cases f <;> rfl)
        (fun e => by first | exact Sem.bind_eq_wrap _ _ | (show (do noteFrame e env; theTreesLotGoes e : Sem Unit).bind (fun _ => .raise e) = _; rw [Sem.bind_eq_wrap]))]
    exact h3
end
section
variable {prog : Program} {w : World} {A : Around} {env : Env} {fp wr : List Addr} {base : Heap} {It : Nat → Value → Heap → Heap → Prop}
theorem SinceW.refl (wr : List Addr) (s : Shared) : SinceW wr s s := ⟨rfl, rfl, rfl, fun _ _ _ e => e⟩
theorem seg_gforY {target e : Expr} {it : Value} {ypos pos : Pos} (Inv : Nat → Shared → Prop) (D U : Nat)
    (turn : ∀ (A' : Around) n s, A'.handled = none → A'.depth ≤ D → A'.units ≤ U → Inv n s →
      wpAny (model prog w) A' (pyNext it) (fun r s1 => match r with
        | none => n = 0 ∧ SinceW wr s s1
        | some v => ∃ m, n = m + 1 ∧ wpAny (model prog w) A' (letOwnedTupleGo target it v) (fun _ s2 => wpAny (model prog w) A' (assign target env v) (fun _ s3 =>
            wpAny (model prog w) A' (eval e env) (fun v' s4 => (∀ s₀ : Shared, SinceW wr s₀ s → It m v' s₀.heap s4.heap) ∧ SinceW wr s s4 ∧ (∀ b ∈ fp, ∃ o, s4.heap.get? b = some o) ∧
              ∀ s5 : Shared, Keep base s5.heap → (∀ b ∈ fp, ∀ o, s4.heap.get? b = some o → s5.heap.get? b = some o) → Inv m s5) (fun _ _ => False) s3) (fun _ _ => False) s2) (fun _ _ => False) s1) (fun _ _ => False) s)
    (hco : env.scope.isCoroutine = false) (hi : interactive env = false) (fs : List PySem.Frame) (hfs : splitAtGen fs = none) (hfg : fs.any Frame.guarded = false)
    (hh : (A.over (.forLoop target it [.Expr (.Yield (some e) ypos) pos] [] env) fs).handled = none) (hd : (A.over (.forLoop target it [.Expr (.Yield (some e) ypos) pos] [] env) fs).depth ≤ D)
    (hu : (A.over (.forLoop target it [.Expr (.Yield (some e) ypos) pos] [] env) fs).units ≤ U)
    (rest : ∀ s₀ s₁, SinceW wr s₀ s₁ → Seg (model prog w) A (GR wr) (GY fp wr base It) 0 s₀ (.forLoop target it [.Expr (.Yield (some e) ypos) pos] [] env) (.pure (.again (.block [] env))) fs s₁) :
    ∀ (n : Nat) (s₀ s : Shared), Inv n s → SinceW wr s₀ s → Seg (model prog w) A (GR wr) (GY fp wr base It) n s₀ (.forLoop target it [.Expr (.Yield (some e) ypos) pos] [] env)
      ((model prog w).den (.forLoop target it [.Expr (.Yield (some e) ypos) pos] [] env)) fs s := by
  intro n
  induction n with
  | zero =>
    intro s₀ s hI hs
    refine seg_forLoop (wpAny_mono (turn _ 0 s hh hd hu hI) (fun r s1 h => ?_) fun _ _ x => x)
    cases r with
    | none => exact rest _ _ (hs.trans h.2)
    | some v => obtain ⟨m, hm, _⟩ := h; cases hm
  | succ m ih =>
    intro s₀ s hI hs
    refine seg_forLoop (wpAny_mono (turn _ (m + 1) s hh hd hu hI) (fun r s1 h => ?_) fun _ _ x => x)
    cases r with
    | none => cases h.1
    | some v =>
      obtain ⟨m', hm, h1⟩ := h
      cases hm
      refine wpAny_mono h1 (fun _ s2 h2 => wpAny_mono h2 (fun _ s3 h3 => ?_) fun _ _ x => x) fun _ _ x => x
      refine seg_execs_cons ?_
      refine seg_Expr_Yield hfs rfl hfg (wpAny_mono h3 (fun v' s4 h4 => ?_) fun _ _ x => x.elim) hco hi
      obtain ⟨hit, hs4, hex, hres⟩ := h4
      intro kap hk
      refine ⟨hit s₀ hs, hs.trans hs4, hex, fun s5 hb hC => hk .none s5 ?_⟩
      exact seg_again rfl (ih s5 s5 (hres s5 hb hC) (SinceW.refl _ _))
end
end Mine
end
section
open PySem PySem.W PySem.W.X PySem.Calls PyProof.Rows
namespace Mine
local macro_rules | `(tactic| k_room) => `(tactic| ((try simp only [depth_under_make, depth_under_kw, depth_in1, depth_deeper, depth_caller]); (simp only [recursionLimit] at *); omega))
local macro_rules | `(tactic| cell_enter) => `(tactic| first
  | (refine' pEnter [] ?k1 ?k2 ?k6 ?k7 ?k8 ?k9 ?kB ?_ ?c2 ?c3 ?c4 ?c5; (case k1 => k_asm); (case k2 => exact TopRead.nolimit (by assumption)); (case k6 => k_is); (case k7 => k_is); (case k8 => k_room); (case k9 => first | exact BindsTo.of_eq rfl | exact binds_K (by k_in) rfl (by k_is) rfl rfl rfl | fail "no rule for these arguments"); (case c5 => decide); (case kB => exact locs rfl); (case c2 => exact rfl); (case c3 => exact rfl); (case c4 => exact rfl); k_whole; intro h₁ L₁ hL₁ F₁ K₁; (rw [hideNil] at F₁); (have N₁ := newsNil F₁); (try dsimp only); (try k_fold))
  | (refine' pEnterC [] ?k1 ?k2 ?k6 ?k7 ?k8 ?k9 ?kB ?kD ?_ ?c2 ?c3 ?c4; (case k1 => k_asm); (case k2 => exact TopRead.nolimit (by assumption)); (case k6 => k_is); (case k7 => k_is); (case k8 => k_room); (case k9 => first | exact BindsTo.of_eq rfl | exact binds_K (by k_in) rfl (by k_is) rfl rfl rfl | fail "no rule for these arguments"); (case kB => exact rfl); (case kD => decide +kernel); (case c2 => exact rfl); (case c3 => exact rfl); (case c4 => exact rfl); k_whole; intro h₁ L₁ tk₁ cells₁ hL₁ F₁ N₁ Y₁ K₁ C₁; (rw [hideNil] at F₁ N₁); k_cells Y₁; (try simp only [List.cons_append, List.nil_append] at N₁); (try dsimp only); (try k_fold)))

theorem list_sized {prog : Program} {w : World} {A : Around} {E : Value → Shared → Prop} {s : Shared} {Q : Value → Shared → Prop} (l : Addr) {o : Obj} {items : Array Value} {n : Nat}
    (ho : s.heap.get? l = some o) (hc : o.cls = .type "list") (hd : o.data = .seq items n) (hsz : items.size ≤ sizeLine)
    (hQ : ∀ h' c', Keep s.heap h' → h'.objs.size = s.heap.objs.size + 1 → h'.get? s.heap.objs.size = some { cls := .type "list", data := .seq items c' } → Q (.ref s.heap.objs.size) { s with heap := h' }) :
    wpAny (model prog w) A (call (.type "list") [.ref l]) Q E s := by
  have new : (s.heap.push { cls := .type "list", data := .seq #[] }).get? s.heap.objs.size = some { cls := .type "list", data := .seq #[] } := Heap.get?_push_size _ rfl
  have hne : l ≠ s.heap.objs.size := fun e => Nat.lt_irrefl _ (e ▸ Heap.lt_size ho)
  refine callType_codes (Q₁ := fun v s₁ => v = .ref s.heap.objs.size ∧ s₁ = { s with heap := s.heap.push { cls := .type "list", data := .seq #[] } }) F.called_list (F.typeCall_list_1 _) F.entry_list_init (code_list_new _ ⟨rfl, rfl⟩) fun v s₁ h₁ => ?_
  obtain ⟨rfl, rfl⟩ := h₁
  have e1 := Heap.get?_update_self (Obj.mapSeq (fun _ => (#[] : Array Value))) new rfl
  have e2 := Heap.get?_update_self (Obj.mapSeq (· ++ items)) e1 rfl
  refine ⟨⟨_, new, rfl⟩, F.args_list_init_2 _ _, wpAny_list_init_seq (hsz := hsz) _ l (.inl rfl) hne new (Heap.get?_push_of_some _ ho) hc hd ⟨rfl, hQ _ _ (fun b o' e => ?_) ?_ (by simpa [Obj.mapSeq] using e2)⟩⟩
  · have hb : s.heap.objs.size ≠ b := fun q => Nat.lt_irrefl _ (q ▸ Heap.lt_size e)
    rw [Heap.get?_update_other _ _ hb, Heap.get?_update_other _ _ hb]
    exact Heap.get?_push_of_some _ e
  · rw [Heap.size_update, Heap.size_update, Heap.size_push]
/-- what `loop_last` yields, m items before the end -/
def LIt (zs : List Str) (m : Nat) (v : Value) (h h' : Heap) : Prop :=
  ∃ d z tz, zs[zs.length - 1 - m]? = some z ∧ v = .ref d ∧ h'.get? d = some { cls := .type "tuple", data := .seq #[.bool (decide (m = 0)), .str z tz] } ∧ h.get? d = none
structure LEnd (base : Heap) (C : Addr) (vs : List Value) (s₀ : Shared) (f : Flow) (s : Shared) : Prop where
  nxt : f = .next
  fr : ∃ m n, Fr base C s.heap m ∧ m (Str.ofString "every") = some (.ref s₀.heap.objs.size) ∧ s.heap.get? s₀.heap.objs.size = some { cls := .type "list", data := .seq vs.toArray n }
  size : s.heap.objs.size = s₀.heap.objs.size + 1
  since : SinceW [C] s₀ s
structure L2 (base : Heap) (C H i N : Nat) (zs : List Str) (s₀ : Shared) (v : Value) (s : Shared) : Prop where
  tup : ∃ d z tz bb, zs[i]? = some z ∧ v = .ref d ∧ bb = decide (i + 1 = N) ∧ s.heap.get? d = some { cls := .type "tuple", data := .seq #[.bool bb, .str z tz] } ∧ s₀.heap.get? d = none ∧ d ≠ C
  fr : ∃ m, Fr base C s.heap m ∧ m (Str.ofString "every") = some (.ref H)
  since : SinceW [C] s₀ s
theorem strs_at {vs : List Value} {zs : List Str} (h : StrsAre vs zs) : ∀ (i : Nat) (v : Value), vs[i]? = some v → ∃ z tz, v = .str z tz ∧ zs[i]? = some z := by
  induction h with
  | nil => intro i v e; simp at e
  | cons x t r ih =>
    intro i v e
    cases i with
    | zero => exact ⟨x, t, by simpa using e.symm, rfl⟩
    | succ i => exact ih i v (by simpa using e)
theorem allLt_mem {d : Nat} : ∀ {l : List (Addr × Obj)}, AllLt d l → ∀ p ∈ l, p.1 < d
  | [], _, _, hp => nomatch hp
  | q :: l, h, p, hp => by
    rcases List.mem_cons.mp hp with rfl | hp
    · exact h.1
    · exact allLt_mem h.2 p hp
/-- the loop of `loop_last`, n items before the end -/
def LInv (base : Heap) (C H : Nat) (vs : List Value) (n : Nat) (s : Shared) : Prop :=
  ∃ i m old k, i + n = vs.length ∧ Fr base C s.heap m ∧ m (Str.ofString "every") = some (.ref H) ∧ IsEnum s.heap (H + 1 + 1) (H + 1) ((i : Nat) : Int) old ∧ s.heap.IsListIter (H + 1) H i ∧ s.heap.get? H = some { cls := .type "list", data := .seq vs.toArray k }
structure TEnd2 (s₀ : Shared) (f : Flow) (s : Shared) : Prop where
  eq : f = .next
  st : ∃ tk, s = { s₀ with toks := tk }
theorem allBut_keepW {base h h' : Heap} {C : Addr} {m : Str → Option Value} {nx : List (Addr × Obj)} (F0 : Keep base h) (F : Fr base C h' m) (N : News base C h' nx) (hs : ∀ p ∈ allBut base C h, p ∈ nx) : ∀ b o, b ∉ [C] → h.get? b = some o → h'.get? b = some o :=
  fun b o n e => allBut_keep F0 F N hs b o (fun q => n (by rw [q]; simp)) e
theorem c_last (w : World) (mg mb) (l : Addr) (n₀ : Nat) (vs : List Value) (zs : List Str) (hvz : StrsAre vs zs) (hlen : zs.length < 1000) (dp : Nat) (fr : Option (List Env)) (gd : Option (List Code)) (un : Nat) (s : Shared) (Q E : Value → Shared → Prop)
    (A' : Around) (hA' : A'.handled = none) (base : Heap) (hbase : Keep base s.heap) (hbsz : base.objs.size ≤ s.heap.objs.size) (hKb : (hd.heap_39 w.params).In base) (hTb : TopRead hd.view_39 LP mg mb base)
    (hl : s.heap.get? l = some { cls := .type "list", data := .seq vs.toArray n₀ }) (hlb : base.get? l = none)
    (hdp : dp + 4 < 900) (hun : un + 80 < 9000)
    (hret : ∀ a C g h' tk gs, Keep s.heap h' → gs.bare = true → g = s.gens.size → GAt PySem.Challenge.rw_ey0021_01.row.prog w A' a g [C, l] base (LIt zs) zs.length { heap := h', gens := s.gens.push gs, drawn := s.drawn, toks := tk, os := s.os } → s.heap.get? a = none → s.heap.get? C = none → a ≠ C → s.heap.objs.size ≤ C →
      Q (.ref a) { heap := h', gens := s.gens.push gs, drawn := s.drawn, toks := tk, os := s.os }) :
    wpAny (model PySem.Challenge.rw_ey0021_01.row.prog w) (AA dp fr gd un) (call (.ref 45) [.ref l]) Q E s := by
  have hK : (hd.heap_39 w.params).In s.heap := hKb.keeps hbase
  have hT : TopRead hd.view_39 LP mg mb s.heap := hTb.keeps hbase
  revert hK; k_fill; intro hK
  refine wpAny_call ?_
  k_dflt (refine' pEnterG ?k1 ?k2 ?k6 ?k7 ?k8 ?k9 ?kB ?_ ?c2 ?c3 ?c4 ?c5)
  case k1 => k_asm
  case k2 => exact hT.nolimit
  case k6 => k_dflt k_is
  case k7 => k_dflt k_is
  case k8 => k_room
  case k9 => k_dflt (first | exact BindsTo.of_eq rfl | exact binds_K (by k_in) rfl (by k_is) rfl rfl rfl)
  case c5 => decide
  case kB => k_dflt (exact locs rfl)
  case c2 => exact rfl
  case c3 => exact rfl
  case c4 => exact rfl
  intro h₁ C a tk gs k1 hn hC haC hgen hC0 ha0 e
  have hlC : l ≠ C := fun q => by rw [q, hC0] at hl; cases hl
  refine hret a C _ h₁ _ gs k1 (by rw [e]; rfl) rfl ⟨hgen, (fun b hm => ?_), gs, ?_, fun s'' hb hc' => ?_⟩ ha0 hC0 (Nat.ne_of_gt haC) hC
  · rcases List.mem_cons.mp hm with rfl | hm
    · exact (let ⟨o, _, _, h, _⟩ := hn; ⟨o, h⟩)
    · rw [List.mem_singleton.mp hm]; exact ⟨_, k1 _ _ hl⟩
  · show (s.gens.push gs)[s.gens.size]? = some gs
    rw [Array.getElem?_push_size]
  · subst e
    have hc := hc' C (by simp)
    have hcl := hc' l (by simp) _ (k1 _ _ hl)
    have F₁ : Fr base C s''.heap _ := ⟨hn.at' hc, hb, Nat.le_trans hbsz hC⟩
    obtain ⟨hh, gg, dd, tt, oo⟩ := s''
    have N₁ : News base C hh ((l, { cls := .type "list", data := .seq vs.toArray n₀ }) :: allBut base C hh) := fun p hp => by
      rcases List.mem_cons.mp hp with rfl | hp
      · exact ⟨hcl, hlC, hlb⟩
      · exact allBut_news p hp
    clear hn hc hc' hK hT
    have hb' : Keep base hh := hb
    have hfr : ∀ b o, hh.get? b = some o → b < hh.objs.size := fun b o e => Heap.lt_size e
    have hCh : C < hh.objs.size := let ⟨o, _, _, h, _⟩ := F₁.ns; Heap.lt_size h
    refine ⟨[C, hh.objs.size, hh.objs.size + 1, hh.objs.size + 2], [C, hh.objs.size + 1, hh.objs.size + 2], fun b h => ?_, fun b h => ?_, rfl, seg_func ?_⟩
    · rcases List.mem_cons.mp h with rfl | h
      · exact .head _
      · exact .tail _ (.tail _ h)
    · rcases List.mem_cons.mp h with rfl | h
      · exact .inl (by simp)
      · refine .inr (Heap.get?_none_of_le ?_)
        show hh.objs.size ≤ b
        rcases List.mem_cons.mp h with rfl | h
        · exact Nat.le_refl _
        · rcases List.mem_cons.mp h with rfl | h
          · exact Nat.le_add_right _ _
          · rw [List.mem_singleton.mp h]; exact Nat.le_add_right _ _
    rw [show ∀ a b c : Stmt, [a, b, c] = [a, b] ++ [c] from fun _ _ _ => rfl, execs_append_wrap]
    refine seg_wrap (wpAny_mono (Q := LEnd base C vs ⟨hh, gg, dd, tt, oo⟩) (E := fun _ _ => False) ?walk (fun f s1 h => ?tail) (fun _ _ z => z.elim))
    case walk =>
      rw [show ∀ a b : Stmt, [a, b] = [a] ++ [b] from fun _ _ => rfl]
      refine wpAny_execs_cons (wpAny_mono (Q := TEnd2 ⟨hh, gg, dd, tt, oo⟩) (E := fun _ _ => False) (by k_steps; exact ⟨rfl, _, rfl⟩) (fun f s2 h2 => ?_) fun _ _ z => z)
      obtain ⟨rfl, tk2, rfl⟩ := h2
      show wpAny _ _ (execs [_] _) _ _ _
      refine wpAny_execs_cons (wpAny_Assign_Name (Call_ (name_B F₁ hKb hTb (v := .type "list") (by k_dflt k_is) (by boot_by_name) (by decide) (callWith_type1 (args_cons (ld F₁ (v := .ref l) rfl (args_nil ?_)))))))
      refine list_sized l hcl rfl rfl ?_ fun h9 c9 K9 z9 e9 => ?_
      · have : vs.toArray.size = zs.length := by rw [List.size_toArray]; exact hvz.len_eq
        have e2 : (1000 : Nat) ≤ sizeLine := by decide
        omega
      have F9 := Fr.keeps F₁ K9
      have N9 := News.grown N₁ K9
      refine wpAny_storeName_local rfl F9.ns (fun h' hn' hs' => ?_) rfl
      have F8 := F9.set hn' hs'
      have N8 := N9.set hs'
      refine wpAny_execs_nil ⟨rfl, ⟨_, c9, F8, rfl, ?_⟩, ?_, ⟨rfl, rfl, rfl, allBut_keepW hb' F8 N8 fun p hp => .tail _ hp⟩⟩
      · exact (hs'.2 _ (Nat.ne_of_gt hCh)).trans e9
      · show h'.objs.size = _
        rw [hs'.1]; exact z9
    case tail =>
      obtain ⟨rfl, ⟨m, n, F₂, hm, hev⟩, hsz, hsin⟩ := h
      obtain ⟨h2, g2, d2, t2, o2⟩ := s1
      refine seg_execs_cons (seg_For (fun _ => rfl) ?_)
      have hev' : h2.get? hh.objs.size = some { cls := .type "list", data := .seq vs.toArray n } := hev
      have hsz' : h2.objs.size = hh.objs.size + 1 := hsz
      have F₃ := Fr.know F₂ hm
      refine Call_ (name_B F₃ hKb hTb (v := .type "enumerate") (by k_dflt k_is) (by boot_by_name) (by decide) (callWith_type1 (args_cons (ld F₃ (v := .ref hh.objs.size) rfl (args_nil ?_)))))
      refine call_enumerate_1 hev' fun h3 he hit hz3 K3 => ?_
      refine wpAny_pyIter_enum he ?_
      intro p
      dsimp only at he hit hz3 K3 ⊢
      rw [hsz'] at he hit hz3 ⊢
      have hCH : C < hh.objs.size := hCh
      obtain ⟨_, dA, fA, gA, uA⟩ := A'
      cases hA'
      have K3' : Keep h2 h3 := K3
      refine seg_gforY (LInv base C hh.objs.size vs) _ _ ?turn rfl rfl _ rfl rfl rfl (Nat.le_refl _) (Nat.le_refl _) ?rest _ _ _ ⟨0, _, _, n, by rw [Nat.zero_add]; exact hvz.len_eq.symm, Fr.keeps F₂ K3', hm, he, hit, K3' _ _ hev'⟩ ?since
      case since => exact ⟨hsin.gens, hsin.drawn, hsin.os, fun b o nb e => K3' b o (hsin.heap b o (fun q => nb (by rw [List.mem_singleton.mp q]; exact .head _)) e)⟩
      case rest =>
        intro s₀ s₁ hs
        refine seg_again rfl ?_
        exact seg_leaf (r := .ok .next) (seg_end (r := .ok (.ret .none)) ⟨rfl, rfl, hs⟩)
      case turn =>
        clear hret hl he hit hz3 K3 K3' hsin F₁ N₁ F₂ F₃ hev hev' hm hsz hsz'
        rintro A2 n2 s2 hA2 _ _ ⟨i, m2, old, k, hin, F₂, hm2, he, hit, hev⟩
        obtain ⟨_, dA2, fA2, gA2, uA2⟩ := A2
        cases hA2
        obtain ⟨h4, g4, d4, t4, o4⟩ := s2
        have hE : h4.IsList hh.objs.size vs.toArray := ⟨_, hev, rfl, _, rfl⟩
        cases n2 with
        | zero =>
          refine wpAny_pyNext_enum_end rfl he hit hE (by simp; omega) fun h' hx => ⟨rfl, rfl, rfl, rfl, fun b o nb e => hx b o (fun q => nb (by rw [q]; exact .tail _ (.head _))) e⟩
        | succ n2 =>
          have hi : i < vs.length := by omega
          have hzi : i < zs.length := by rw [← hvz.len_eq]; exact hi
          refine wpAny_pyNext_enum_item (x := vs[i]) he hit hE (by simp [hi]) (Nat.ne_of_gt (Nat.lt_succ_self _)) fun h5 heo hit5 ht5 hz5 hk5 => ⟨n2, rfl, ?_⟩
          refine wpAny_letOwnedTupleGo_enum heo fun h6 he6 hs6 => ?_
          obtain ⟨z, tz, hz, hzs⟩ := strs_at hvz i vs[i] (by simp [hi])
          rw [hz] at ht5
          have hk6 : ∀ b o, b ≠ hh.objs.size + 1 + 1 → b ≠ hh.objs.size + 1 → h4.get? b = some o → h6.get? b = some o := fun b o n1 n2 e => (hs6.2 b n1).trans (hk5 b o n1 n2 e)
          have hCe : C ≠ hh.objs.size + 1 + 1 := Nat.ne_of_lt (Nat.lt_of_lt_of_le hCH (by omega))
          have hCi : C ≠ hh.objs.size + 1 := Nat.ne_of_lt (Nat.lt_of_lt_of_le hCH (by omega))
          have hHe : hh.objs.size ≠ hh.objs.size + 1 + 1 := by omega
          have hHi : hh.objs.size ≠ hh.objs.size + 1 := by omega
          have big : ∀ b o, base.get? b = some o → b < hh.objs.size := fun b o e => Nat.lt_trans (Nat.lt_of_lt_of_le (Heap.lt_size e) F₂.above) hCH
          have F₆ : Fr base C h6 m2 := ⟨F₂.ns.at' fun o e => hk6 C o hCe hCi e, fun b o e => hk6 b o (Nat.ne_of_lt (Nat.lt_of_lt_of_le (big b o e) (by omega))) (Nat.ne_of_lt (Nat.lt_of_lt_of_le (big b o e) (by omega))) (F₂.keep b o e), F₂.above⟩
          have het : hh.objs.size + 1 + 1 < h4.objs.size := Heap.lt_size he
          have hC4 : C < h4.objs.size := let ⟨o, _, _, h, _⟩ := F₂.ns; Heap.lt_size h
          have ht6 : h6.get? h4.objs.size = some { cls := .type "tuple", data := .seq #[.int i t4, .str z tz] } := (hs6.2 _ (Nat.ne_of_gt het)).trans ht5
          have hev6 := hk6 _ _ hHe hHi hev
          have bn : ∀ b, hh.objs.size ≤ b → base.get? b = none := fun b hb => by
            cases q : base.get? b with
            | none => rfl
            | some o => exact absurd (big b o q) (Nat.not_lt.mpr hb)
          have N₆ : News base C h6 ((h4.objs.size, { cls := .type "tuple", data := .seq #[.int i t4, .str z tz] }) :: (hh.objs.size, { cls := .type "list", data := .seq vs.toArray k }) :: allBut base C h6) := fun q hq => by
            rcases List.mem_cons.mp hq with rfl | hq
            · exact ⟨ht6, Nat.ne_of_gt hC4, bn _ (by show hh.objs.size ≤ h4.objs.size; omega)⟩
            · rcases List.mem_cons.mp hq with rfl | hq
              · exact ⟨hev6, Nat.ne_of_gt hCH, bn _ (Nat.le_refl _)⟩
              · exact allBut_news q hq
          have F₇ := Fr.know F₆ hm2
          have hb6 : Keep base h6 := F₆.keep
          have hvl : (vs.toArray.size : Int) < 1000 := by simp; have := hvz.len_eq; omega
          clear F₂ F₆ hm2
          refine wpAny_mono (Q := fun _ s7 => wpAny (model PySem.Challenge.rw_ey0021_01.row.prog w) _ (eval _ _) (L2 base C hh.objs.size i vs.length zs ⟨h6, g4, d4, t4, o4⟩) (fun _ _ => False) s7) (E := fun _ _ => False) ?wk (fun _ s7 h7 => wpAny_mono h7 (fun v s8 h8 => ?fin) fun _ _ x => x) (fun _ _ x => x)
          case wk =>
            k_steps
            rename Fr _ _ _ _ => F9
            rename News _ _ _ _ => N9
            rename_i l9
            refine ⟨⟨_, z, tz, _, hzs, rfl, ?_, (N9 _ (.head _)).1, allBut_fresh (N9 _ (.head _)).2.2 (N9 _ (.head _)).2.1 (allLt_mem l9.2.2), (N9 _ (.head _)).2.1⟩, ⟨_, F9, rfl⟩, ⟨rfl, rfl, rfl, allBut_keepW hb6 F9 N9 fun p hp => .tail _ (.tail _ (.tail _ hp))⟩⟩
            rename StrsAre _ _ => hvz9
            have hv9 := hvz9.len_eq
            rw [Bool.eq_iff_iff]
            simp only [beq_iff_eq, decide_eq_true_eq]
            omega
          case fin =>
            obtain ⟨⟨d, z', tz', bb, hz', rfl, hbb, hd, hd0, hdC⟩, ⟨m9, F9, hm9⟩, hs9⟩ := h8
            obtain ⟨h9, g9, d9, t9, o9⟩ := s8
            have k9 : ∀ b o, b ∉ [C, hh.objs.size + 1, hh.objs.size + 1 + 1] → h4.get? b = some o → h9.get? b = some o := fun b o n e =>
              hs9.heap b o (fun q => n (by rw [List.mem_singleton.mp q]; exact .head _)) (hk6 b o (fun q => n (by rw [q]; exact .tail _ (.tail _ (.head _)))) (fun q => n (by rw [q]; exact .tail _ (.head _))) e)
            have kk : ∀ b o, b ≠ C → h6.get? b = some o → h9.get? b = some o := fun b o n e => hs9.heap b o (fun q => n (List.mem_singleton.mp q)) e
            have he9 : IsEnum h9 (hh.objs.size + 1 + 1) (hh.objs.size + 1) ((i : Int) + 1) vs[i] := kk _ _ (Ne.symm hCe) he6
            have hit9 : h9.IsListIter (hh.objs.size + 1) hh.objs.size (i + 1) := hit5.at fun o e => kk _ o (Ne.symm hCi) ((hs6.2 _ (Nat.ne_of_lt (Nat.lt_succ_self _))).trans e)
            have hev9 := kk _ _ (Nat.ne_of_gt hCH) hev6
            refine ⟨fun s₀ hs₀ => ⟨d, z', tz', ?_, rfl, ?_, ?_⟩, ⟨hs9.gens, hs9.drawn, hs9.os, k9⟩, fun b hb => ?_, fun s10 hb10 hc10 => ?_⟩
            · rw [show zs.length - 1 - n2 = i by have := hvz.len_eq; omega]; exact hz'
            · rw [show decide (n2 = 0) = bb by rw [hbb]; congr 1; exact propext ⟨fun _ => by omega, fun _ => by omega⟩]; exact hd
            · cases q : s₀.heap.get? d with
              | none => rfl
              | some o =>
                have n1 : d ≠ hh.objs.size + 1 + 1 := fun q => by
                  have h1 : h6.get? (hh.objs.size + 1 + 1) = _ := he6
                  have h2 : h6.get? d = none := hd0
                  rw [q, h1] at h2; cases h2
                have n2' : d ≠ hh.objs.size + 1 := fun q => by
                  obtain ⟨oi, h1, _⟩ := hit5
                  have h1' : h6.get? (hh.objs.size + 1) = some oi := (hs6.2 _ (Nat.ne_of_lt (Nat.lt_succ_self _))).trans h1
                  have h2 : h6.get? d = none := hd0
                  rw [q, h1'] at h2; cases h2
                have h3 : h4.get? d = some o := hs₀.heap d o (fun hm => by
                  rcases List.mem_cons.mp hm with q | hm
                  · exact hdC q
                  · rcases List.mem_cons.mp hm with q | hm
                    · exact n2' q
                    · exact n1 (List.mem_singleton.mp hm)) q
                have h4' := hk6 d o n1 n2' h3
                have h2 : h6.get? d = none := hd0
                rw [h2] at h4'; cases h4'
            · rcases List.mem_cons.mp hb with rfl | hb
              · exact (let ⟨o, _, _, h, _⟩ := F9.ns; ⟨o, h⟩)
              · rcases List.mem_cons.mp hb with rfl | hb
                · exact ⟨_, hev9⟩
                · rcases List.mem_cons.mp hb with rfl | hb
                  · exact (let ⟨o, h, _⟩ := hit9; ⟨o, h⟩)
                  · rw [List.mem_singleton.mp hb]; exact ⟨_, he9⟩
            · obtain ⟨h10, g10, d10, t10, o10⟩ := s10
              exact ⟨i + 1, m9, vs[i], k, by omega, ⟨F9.ns.at' (hc10 C (.head _)), hb10, F9.above⟩, hm9, hc10 (hh.objs.size + 1 + 1) (.tail _ (.tail _ (.tail _ (.head _)))) _ he9, hit9.at (hc10 (hh.objs.size + 1) (.tail _ (.tail _ (.head _)))), hc10 hh.objs.size (.tail _ (.head _)) _ hev9⟩

end Mine
end
section
open PySem PySem.W PySem.W.X PySem.Calls PyProof.Rows
namespace Mine
section
variable {prog : Program} {w : World} {A : Around} {E : Value → Shared → Prop} {Q : Flow → Shared → Prop} {s : Shared} {env : Env} {h₀ : Heap} {test : Expr} {body : List Stmt}
def WLoop (prog : Program) (w : World) (A : Around) (env : Env) (test : Expr) (body : List Stmt) (Q : Flow → Shared → Prop) (E : Value → Shared → Prop) (s : Shared) : Prop :=
  codeAny (model prog w) A (.whileLoop test body [] env) (fun r s' => match r with | .ok f => Q f s' | .error e => cameBackBy (model prog w) A env E e s') s
theorem While_G {pos : Pos} (h : WLoop prog w A env test body Q E s) : wpAny (model prog w) A (exec (.While test body [] pos) env) Q E s := wpAny_While h
def WPost (h₀ : Heap) (L : Addr) (J : (Str → Option Value) → List (Addr × Obj) → Array GenState → Prop) (d : Drawn) (os : OsState) (Q : Flow → Shared → Prop) (f : Flow) (s' : Shared) : Prop :=
  match f with
  | .next | .cont => ∃ h' tk' g' m' nx', s' = { heap := h', gens := g', drawn := d, toks := tk', os := os } ∧ Fr h₀ L h' m' ∧ News h₀ L h' nx' ∧ J m' nx' g'
  | .brk => Q .next s'
  | .ret v => Q (.ret v) s'
theorem WPost.fin {L : Addr} {J : (Str → Option Value) → List (Addr × Obj) → Array GenState → Prop} {d : Drawn} {os : OsState} {h' : Heap} {m' : Str → Option Value} {g' : Array GenState} {tk : Nat} {nx' : List (Addr × Obj)} (F : Fr h₀ L h' m') (N : News h₀ L h' nx') (hJ : J m' nx' g') :
    WPost h₀ L J d os Q .next { heap := h', gens := g', drawn := d, toks := tk, os := os } := ⟨_, _, _, _, _, rfl, F, N, hJ⟩
theorem WPost.finC {L : Addr} {J : (Str → Option Value) → List (Addr × Obj) → Array GenState → Prop} {d : Drawn} {os : OsState} {h' : Heap} {m' : Str → Option Value} {g' : Array GenState} {tk : Nat} {nx' : List (Addr × Obj)} (F : Fr h₀ L h' m') (N : News h₀ L h' nx') (hJ : J m' nx' g') :
    WPost h₀ L J d os Q .cont { heap := h', gens := g', drawn := d, toks := tk, os := os } := ⟨_, _, _, _, _, rfl, F, N, hJ⟩
theorem WPost.brk {L : Addr} {J : (Str → Option Value) → List (Addr × Obj) → Array GenState → Prop} {d : Drawn} {os : OsState} {s' : Shared} (h : Q .next s') : WPost h₀ L J d os Q .brk s' := h
theorem WPost.ret {L : Addr} {J : (Str → Option Value) → List (Addr × Obj) → Array GenState → Prop} {d : Drawn} {os : OsState} {s' : Shared} {v : Value} (h : Q (.ret v) s') : WPost h₀ L J d os Q (.ret v) s' := h
theorem wloop {m : Str → Option Value} {news : List (Addr × Obj)} (J : Nat → (Str → Option Value) → List (Addr × Obj) → Array GenState → Prop) (n₀ : Nat)
    (F : Fr h₀ env.locals s.heap m) (N : News h₀ env.locals s.heap news) (hJ : J n₀ m news s.gens) (hE : PassesOwn (model prog w) A env E)
    (turn : ∀ n m₁ nx h tk g, J n m₁ nx g → Fr h₀ env.locals h m₁ → News h₀ env.locals h nx → wpAny (model prog w) A (isTrue test env (eval test env)) (fun b s₂ =>
        if b = true then wpAny (model prog w) A (execs body env) (WPost h₀ env.locals (fun m' nx' g' => ∃ k, k < n ∧ J k m' nx' g') s.drawn s.os Q) E s₂ else Q .next s₂) E { heap := h, gens := g, drawn := s.drawn, toks := tk, os := s.os }) :
    WLoop prog w A env test body Q E s := by
  unfold WLoop
  refine codeAny_whileLoop (fun n s' => ∃ h₁ tk₁ g₁ m₁ nx, s' = { heap := h₁, gens := g₁, drawn := s.drawn, toks := tk₁, os := s.os } ∧ Fr h₀ env.locals h₁ m₁ ∧ News h₀ env.locals h₁ nx ∧ J n m₁ nx g₁) ?_ n₀ ⟨s.heap, s.toks, s.gens, m, news, rfl, F, N, hJ⟩
  rintro n s' ⟨h₁, tk₁, g₁, m₁, nx, rfl, F₁, N₁, J₁⟩
  refine wpAny_mono (turn n m₁ nx h₁ tk₁ g₁ J₁ F₁ N₁) (fun b s₂ h₂ => ?_) hE
  cases b with
  | false =>
    simp only [Bool.false_eq_true, if_false] at h₂ ⊢
    exact wpAny_execs_nil h₂
  | true =>
    simp only [if_true] at h₂ ⊢
    refine wpAny_mono h₂ (fun f s₃ h₃ => ?_) hE
    have fin : (∃ h' tk' g' m' nx', s₃ = { heap := h', gens := g', drawn := s.drawn, toks := tk', os := s.os } ∧ Fr h₀ env.locals h' m' ∧ News h₀ env.locals h' nx' ∧ ∃ k, k < n ∧ J k m' nx' g') → ∃ k, k < n ∧ ∃ h₁ tk₁ g₁ m₁ nx, s₃ = { heap := h₁, gens := g₁, drawn := s.drawn, toks := tk₁, os := s.os } ∧ Fr h₀ env.locals h₁ m₁ ∧ News h₀ env.locals h₁ nx ∧ J k m₁ nx g₁ := by
      rintro ⟨h', tk', g', m', nx', e, F', N', k, hk, hJ'⟩
      exact ⟨k, hk, h', tk', g', m', nx', e, F', N', hJ'⟩
    cases f with
    | next => exact fin h₃
    | cont => exact fin h₃
    | brk => exact h₃
    | ret v => exact h₃
end
end Mine
end
section
open PySem PySem.W PySem.W.X PySem.Calls PyProof.Rows
namespace Mine
local macro_rules | `(tactic| k_room) => `(tactic| ((try simp only [depth_under_make, depth_under_kw, depth_in1, depth_deeper, depth_caller]); (simp only [recursionLimit] at *); omega))
local macro_rules | `(tactic| cell_enter) => `(tactic| first
  | (refine' pEnter [] ?k1 ?k2 ?k6 ?k7 ?k8 ?k9 ?kB ?_ ?c2 ?c3 ?c4 ?c5; (case k1 => k_asm); (case k2 => exact TopRead.nolimit (by assumption)); (case k6 => k_is); (case k7 => k_is); (case k8 => k_room); (case k9 => first | exact BindsTo.of_eq rfl | exact binds_K (by k_in) rfl (by k_is) rfl rfl rfl | fail "no rule for these arguments"); (case c5 => decide); (case kB => exact locs rfl); (case c2 => exact rfl); (case c3 => exact rfl); (case c4 => exact rfl); k_whole; intro h₁ L₁ hL₁ F₁ K₁; (rw [hideNil] at F₁); (have N₁ := newsNil F₁); (try dsimp only); (try k_fold))
  | (refine' pEnterC [] ?k1 ?k2 ?k6 ?k7 ?k8 ?k9 ?kB ?kD ?_ ?c2 ?c3 ?c4; (case k1 => k_asm); (case k2 => exact TopRead.nolimit (by assumption)); (case k6 => k_is); (case k7 => k_is); (case k8 => k_room); (case k9 => first | exact BindsTo.of_eq rfl | exact binds_K (by k_in) rfl (by k_is) rfl rfl rfl | fail "no rule for these arguments"); (case kB => exact rfl); (case kD => decide +kernel); (case c2 => exact rfl); (case c3 => exact rfl); (case c4 => exact rfl); k_whole; intro h₁ L₁ tk₁ cells₁ hL₁ F₁ N₁ Y₁ K₁ C₁; (rw [hideNil] at F₁ N₁); k_cells Y₁; (try simp only [List.cons_append, List.nil_append] at N₁); (try dsimp only); (try k_fold)))

local macro_rules | `(tactic| walk_at "exec While") => `(tactic| (k_here; (with_reducible show wpAny _ _ (exec (Stmt.While _ _ [] _) _) _ _ _); (refine' While_G ?_)))
local macro_rules | `(tactic| walk_at "call ref") => `(tactic| (k_here; (with_reducible show wpAny _ _ (call (Value.ref 187) [Value.str _ _]) _ _ _); (rename Fr _ _ _ _ => F9); (rename News _ _ _ _ => N9); (rename TopRead _ _ _ _ _ => T9); (refine' c_load _ _ _ _ _ _ _ _ _ _ _ (Frag.In.keeps ?X (Fr.keep F9)) (TopRead.keeps T9 (Fr.keep F9)) ?d ?u ?p ?_; (case X => assumption); (case d => (try simp only [depth_deeper]); omega); (case u => (try simp only [units_deeper]); omega); (case p => trivial)); (intro v9 h9 tk9 K9 R9); (have F9' := Fr.keeps F9 K9); (have N9' := News.grown N9 K9); clear F9 N9; (obtain ⟨a8, dx8, t8, e8, e8a, e8b⟩ := R9); (subst e8); (try dsimp only)))
local macro_rules | `(tactic| walk_at "call ref") => `(tactic| (k_here; (with_reducible show wpAny _ _ (call (Value.ref 209) [Value.str _ _, Value.str _ _]) _ _ _); (rename Fr _ _ _ _ => F9); (rename News _ _ _ _ => N9); (rename TopRead _ _ _ _ _ => T9); (refine' c_gccs _ _ _ _ _ _ _ _ _ _ _ _ _ (Frag.In.keeps ?X (Fr.keep F9)) (TopRead.keeps T9 (Fr.keep F9)) ?d ?u ?p ?_; (case X => assumption); (case d => (try simp only [depth_deeper]); omega); (case u => (try simp only [units_deeper]); omega); (case p => assumption)); (intro v9 h9 tk9 K9 R9); (have F9' := Fr.keeps F9 K9); (have N9' := News.grown N9 K9); clear F9 N9; (obtain ⟨t8, e8⟩ := R9); (subst e8); (try dsimp only)))
local macro_rules | `(tactic| walk_at "call builtin:list.append") => `(tactic| (k_here; (with_reducible show wpAny _ _ (call (Value.builtin _) [Value.ref _, _]) _ _ _); k_dflt (refine' append_K ?k1 ?k2 ?k3 ?_ ?z; (case k1 => k_asm); (case k2 => k_asm); (case k3 => k_upd); (case z => ((try simp only [List.size_toArray, List.length_map]); (have e9 : (1000 : Nat) ≤ sizeLine := by decide); omega)); k_whole); intro h' F' N'; (try k_sweep)))
local macro_rules | `(tactic| walk_at "call ref") => `(tactic| (k_here; (with_reducible show wpAny _ _ (call (Value.ref 209) [Value.str (Txt.item _ _) _, Value.str _ _]) _ _ _); (rename Txt.item _ _ = _ => ei9); rw [ei9]))
theorem News.swap {h₀ h : Heap} {L : Addr} {a b : Addr × Obj} {r : List (Addr × Obj)} (N : News h₀ L h (a :: b :: r)) : News h₀ L h (b :: a :: r) := fun p hp => N p (by
  rcases List.mem_cons.mp hp with rfl | hp
  · exact .tail _ (.head _)
  · rcases List.mem_cons.mp hp with rfl | hp
    · exact .head _
    · exact .tail _ (.tail _ hp))
theorem News.rot {h₀ h : Heap} {L : Addr} {a b c : Addr × Obj} {r : List (Addr × Obj)} (N : News h₀ L h (a :: b :: c :: r)) : News h₀ L h (b :: c :: a :: r) := fun p hp => N p (by
  simp only [List.mem_cons] at hp ⊢
  rcases hp with h | h | h | h
  · exact .inr (.inl h)
  · exact .inr (.inr (.inl h))
  · exact .inl h
  · exact .inr (.inr (.inr h)))
theorem sizeL_take {x : Str} {i : Nat} (h : i < x.cps.size) : sizeL (x.cps.toList.take (i + 1)) = sizeL (x.cps.toList.take i) + wd (x.cps.getD i 0) := by
  have h' : i < x.cps.toList.length := by simpa using h
  unfold sizeL
  rw [List.take_add_one, List.map_append, List.sum_append, List.getElem?_eq_getElem h']
  simp [Array.getD, h]
theorem wd_ne (c : Nat) : wd c ≠ 0 := by unfold wd; split <;> omega
theorem truthy_wd {prog : Program} {w : World} {A : Around} {E : Value → Shared → Prop} {s : Shared} {c : Nat} {t : Tok} {Q : Bool → Shared → Prop} (h : Q true s) : wpAny (model prog w) A (truthy (.int (wd c) t)) Q E s := by
  refine truthy_int ?_
  have e : (wd c != 0) = true := by simp [wd_ne c]
  rw [e]; exact h
local macro_rules | `(tactic| walk_at "truthy int") => `(tactic| (k_here; (with_reducible refine truthy_wd ?_)))
theorem item_at {x : Str} {i : Nat} (h : i < x.cps.size) : Txt.item x (i : Int) = ⟨#[x.cps.getD i 0]⟩ := by
  have e : seqIndex? (i : Int) x.length = some i := by
    unfold seqIndex?
    have h' : i < x.length := h
    simp [h']
    try omega
  unfold Txt.item Txt.charAt
  rw [e]
  simp [Array.getD, h]
theorem one_ne {a b : Nat} (h : a ≠ b) : (⟨#[a]⟩ : Str) ≠ ⟨#[b]⟩ := fun q => h (by
  have := congrArg (fun z : Str => z.cps.toList) q
  simpa using this)
theorem not_special {c : Nat} (h : okc c) : (false || decide ((⟨#[c]⟩ : Str) = Str.ofString "‍") || decide ((⟨#[c]⟩ : Str) = Str.ofString "️")) = false := by
  have e1 : Str.ofString "‍" = ⟨#[8205]⟩ := by rfl
  have e2 : Str.ofString "️" = ⟨#[65039]⟩ := by rfl
  rw [e1, e2, decide_eq_false (one_ne (by rcases h with h | h <;> omega)), decide_eq_false (one_ne (by rcases h with h | h <;> omega))]
  rfl
/-- the spans of the first i signs -/
def SpanObjs (x : Str) (ds : List Addr) (sn : List (Addr × Obj)) (i : Nat) : Prop :=
  ds.length = i ∧ ∀ (j : Nat) (d : Addr), ds[j]? = some d → ∃ ta tb tc, (d, ({ cls := .type "tuple", data := .seq #[.int (j : Int) ta, .int ((j + 1 : Nat) : Int) tb, .int (wd (x.cps.getD j 0)) tc] } : Obj)) ∈ sn
def SJ (x : Str) (t u : Tok) (sp st : Addr) (so : Obj) (g₀ : Array GenState) (n : Nat) (m : Str → Option Value) (nx : List (Addr × Obj)) (g : Array GenState) : Prop :=
  g = g₀ ∧ ∃ (i : Nat) (ds : List Addr) (sn : List (Addr × Obj)) (k : Nat) (ti tc tt : Tok), n = x.cps.size - i ∧ i ≤ x.cps.size ∧ nx = (sp, W.listOf (ds.map Value.ref).toArray k) :: (st, so) :: sn ∧ OwnOff sn [sp, st] ∧ SpanObjs x ds sn i ∧
    m (Str.ofString "text") = some (.str x t) ∧ m (Str.ofString "unicode_version") = some (.str (Str.ofString "auto") u) ∧ m (Str.ofString "codepoint_count") = some (.int x.length tc) ∧ m (Str.ofString "index") = some (.int i ti) ∧
    m (Str.ofString "total_width") = some (.int (sizeL (x.cps.toList.take i)) tt) ∧ m (Str.ofString "spans") = some (.ref sp) ∧ m (Str.ofString "SPECIAL") = some (.ref st)
theorem SJ.step {x : Str} {t u : Tok} {sp st : Addr} {so : Obj} {g₀ : Array GenState} {i k : Nat} {ds : List Addr} {sn : List (Addr × Obj)} {m' : Str → Option Value} {D : Addr} {ta tb tc ti tk tt : Tok}
    (hlt : i < x.cps.size) (hsp : SpanObjs x ds sn i) (hoff : OwnOff sn [sp, st]) (h1 : @LT.lt Nat _ sp D) (h2 : @LT.lt Nat _ st D)
    (e1 : m' (Str.ofString "text") = some (.str x t)) (e2 : m' (Str.ofString "unicode_version") = some (.str (Str.ofString "auto") u)) (e3 : m' (Str.ofString "codepoint_count") = some (.int x.length tk)) (e4 : m' (Str.ofString "index") = some (.int ((i : Int) + 1) ti))
    (e5 : m' (Str.ofString "total_width") = some (.int (sizeL (x.cps.toList.take i) + wd (x.cps.getD i 0)) tt)) (e6 : m' (Str.ofString "spans") = some (.ref sp)) (e7 : m' (Str.ofString "SPECIAL") = some (.ref st)) :
    SJ x t u sp st so g₀ (x.cps.size - (i + 1)) m' ((sp, W.listOf ((ds.map Value.ref).toArray.push (.ref D)) (k + 1)) :: (st, so) :: (D, { cls := .type "tuple", data := .seq #[.int (i : Int) ta, .int ((i : Int) + 1) tb, .int (wd (x.cps.getD i 0)) tc] }) :: sn) g₀ := by
  obtain ⟨hds, hsp⟩ := hsp
  refine ⟨rfl, i + 1, ds ++ [D], (D, { cls := .type "tuple", data := .seq #[.int (i : Int) ta, .int ((i : Int) + 1) tb, .int (wd (x.cps.getD i 0)) tc] }) :: sn, k + 1, ti, tk, tt, rfl, hlt, ?_, ?_, ⟨by simp [hds], fun j d hj => ?_⟩, e1, e2, e3, e4, ?_, e6, e7⟩
  · rw [show ((ds ++ [D]).map Value.ref).toArray = (ds.map Value.ref).toArray.push (.ref D) by simp]
  · intro p hp b hb e
    rcases List.mem_cons.mp hp with rfl | hp
    · have e' : D = b := e
      rcases List.mem_cons.mp hb with q | hb
      · exact Nat.ne_of_gt h1 (e'.trans q)
      · exact Nat.ne_of_gt h2 (e'.trans (List.mem_singleton.mp hb))
    · exact hoff p hp b hb e
  · rcases Nat.lt_or_ge j ds.length with hj1 | hj1
    · rw [List.getElem?_append_left hj1] at hj
      obtain ⟨a, b, c, hm⟩ := hsp j d hj
      exact ⟨a, b, c, .tail _ hm⟩
    · rw [List.getElem?_append_right hj1] at hj
      have hj0 : j - ds.length = 0 := by
        rcases Nat.eq_zero_or_pos (j - ds.length) with h | h
        · exact h
        · rw [List.getElem?_eq_none (by simp; omega)] at hj; cases hj
      rw [hj0] at hj
      have hji : j = i := by omega
      cases hj
      subst hji
      exact ⟨_, _, _, .head _⟩
  · rw [sizeL_take hlt]; exact e5
/-- the spans as they lie in a heap, all new against h₀ -/
def SpansAt (x : Str) (h₀ h : Heap) (sp : Addr) (ds : List Addr) (k : Nat) : Prop :=
  h.get? sp = some (W.listOf (ds.map Value.ref).toArray k) ∧ h₀.get? sp = none ∧ ds.length = x.cps.size ∧ ∀ (j : Nat) (d : Addr), ds[j]? = some d → (∃ ta tb tc, h.get? d = some { cls := .type "tuple", data := .seq #[.int (j : Int) ta, .int ((j + 1 : Nat) : Int) tb, .int (wd (x.cps.getD j 0)) tc] }) ∧ h₀.get? d = none ∧ d ≠ sp
theorem c_split (w : World) (mg mb) (x : Str) (t u : Tok) (dp : Nat) (fr : Option (List Env)) (gd : Option (List Code)) (un : Nat) (s : Shared) (Q E : Value → Shared → Prop)
    (hK : (hd.heap_39 w.params).In s.heap) (hT : TopRead hd.view_39 LP mg mb s.heap) (hdp : dp + 14 < 900) (hun : un + 280 < 9000) (hpre : okx x ∧ x.length < 500)
    (hret : ∀ D sp tt k ds h' tk', Keep s.heap h' → h'.get? D = some { cls := .type "tuple", data := .seq #[.ref sp, .int (sizeL x.cps.toList) tt] } → s.heap.get? D = none → SpansAt x s.heap h' sp ds k → Q (.ref D) { heap := h', gens := s.gens, drawn := s.drawn, toks := tk', os := s.os }) :
    wpAny (model PySem.Challenge.rw_ey0021_01.row.prog w) (AA dp fr gd un) (call (.ref 240) [.str x t, .str (Str.ofString "auto") u]) Q E s := by
  revert hK; k_fill; intro hK
  refine wpAny_call ?_
  k_dflt cell_enter
  obtain ⟨hok, hlen⟩ := hpre
  k_steps
  rename Fr _ _ _ _ => F9
  rename News _ _ _ _ => N9
  refine wloop (SJ x t u _ _ _ s.gens) x.cps.size F9 (News.swap N9) ⟨rfl, 0, [], [], 0, _, _, _, rfl, Nat.zero_le _, rfl, (fun _ h => nomatch h), ⟨rfl, fun j d h => by simp at h⟩, rfl, rfl, rfl, rfl, rfl, rfl, rfl⟩ (by passes_own) ?turn
  case turn =>
    rintro n m nx h tk g ⟨rfl, i, ds, sn, k, ti, tc, tt, hn, hi, rfl, hoff, hsp, e1, e2, e3, e4, e5, e6, e7⟩ F N
    have F8 := (Fr.know (y := Str.ofString "SPECIAL") (Fr.know (y := Str.ofString "spans") (Fr.know (y := Str.ofString "total_width") (Fr.know (y := Str.ofString "index") (Fr.know (y := Str.ofString "codepoint_count") (Fr.know (y := Str.ofString "unicode_version") (Fr.know (y := Str.ofString "text") F e1) e2) e3) e4) e5) e6) e7)
    clear F9 N9 F
    by_cases hlt : i < x.cps.size
    · have hc : x.cps[i]? = some (x.cps.getD i 0) := by simp [Array.getD, hlt]
      have hokc : okc (x.cps.getD i 0) := hok _ (by simp [Array.getD, hlt])
      have hltx : (i : Int) < (x.length : Int) := by show (i : Int) < (x.cps.size : Int); omega
      have hwd : wd (x.cps.getD i 0) ≠ 0 := wd_ne _
      have hds : ds.length = i := hsp.1
      have hi500 : i < 500 := Nat.lt_trans hlt hlen
      have ei : Txt.item x (i : Int) = ⟨#[x.cps.getD i 0]⟩ := item_at hlt
      have en : (false || decide (Txt.item x (i : Int) = Str.ofString "‍") || decide (Txt.item x (i : Int) = Str.ofString "️")) = false := by
        rw [ei]
        exact not_special hokc
      k_steps
      · rename Fr _ _ _ _ => F9
        rename News _ _ _ _ => N9
        rename_i l9
        exact WPost.fin F9 (News.rot N9) ⟨x.cps.size - (i + 1), by omega, SJ.step hlt hsp hoff (by omega) (by omega) rfl rfl rfl rfl rfl rfl rfl⟩
    · have hgex : ¬ ((i : Int) < (x.length : Int)) := by show ¬ ((i : Int) < (x.cps.size : Int)); omega
      k_steps
      rename Fr _ _ _ _ => F9
      rename News _ _ _ _ => N9
      have hie : i = x.cps.size := by omega
      subst hie
      have hD := (N9 _ (.head _)).1
      have htl : x.cps.toList.take x.cps.size = x.cps.toList := List.take_of_length_le (by simp)
      dsimp only at hD
      rw [htl] at hD
      refine hret _ _ _ _ _ _ _ F9.keep hD (N9 _ (.head _)).2.2 ⟨(N9 _ (.tail _ (.head _))).1, (N9 _ (.tail _ (.head _))).2.2, hsp.1, fun j d hj => ?_⟩
      obtain ⟨a, b, c, hm⟩ := hsp.2 j d hj
      have hm' := N9 _ (.tail _ (.tail _ (.tail _ hm)))
      exact ⟨⟨a, b, c, hm'.1⟩, hm'.2.2, hoff _ hm _ (.head _)⟩

end Mine
end
section
open PySem PySem.W PySem.W.X PySem.Calls PyProof.Rows PyProof.Rows.LCg
namespace Mine
/-- a comprehension over a range with a step -/
def SrcS (prog : Program) (w : World) (A : Around) (h₀ : Heap) (L : Addr) (m : Str → Option Value) (env : Env) (elt : Expr) (x : Str) (scope : Scope) (cl : List (Str × Addr)) (Fin : Shared → List Value → List (Addr × Obj) → Prop) (xv : Value) (s₁ : Shared) : Prop :=
  ∃ r a b c t u v n news, xv = .ref r ∧ A.handled = none ∧ Fr h₀ L s₁.heap m ∧ News h₀ L s₁.heap news ∧ IsRange s₁.heap r a b c t u v ∧ Builtin.Range.small a b c = true ∧ Builtin.Range.rangeSize a b c = ((n : Nat) : Int) ∧ n ≤ sizeLine ∧
    ∀ s₂ : Shared, (∃ h, s₂ = { s₁ with heap := h }) → CompRest prog w A h₀ L m env elt x scope cl s₂ (fun _ => True) (fun i v => ∃ t, v = .int (a + (i : Int) * c) t) (Fin s₂) n 0 [] news
section
variable {prog : Program} {w : World} {A : Around} {E : Value → Shared → Prop} {s : Shared} {h₀ : Heap} {L : Addr} {m : Str → Option Value} {env : Env}
theorem SrcS.mk {elt : Expr} {x : Str} {scope : Scope} {cl : List (Str × Addr)} {Fin : Shared → List Value → List (Addr × Obj) → Prop} {r : Addr} {a b c : Int} {t u v : Tok} {n : Nat} {news : List (Addr × Obj)} {s₁ : Shared}
    (hr : IsRange s₁.heap r a b c t u v) (hsm : Builtin.Range.small a b c = true) (hn : Builtin.Range.rangeSize a b c = ((n : Nat) : Int)) (hh : A.handled = none) (F : Fr h₀ L s₁.heap m) (N : News h₀ L s₁.heap news) (hsz : n ≤ sizeLine)
    (h : ∀ g, CompRest prog w A h₀ L m env elt x scope cl { s₁ with heap := g } (fun _ => True) (fun i v => ∃ t, v = .int (a + (i : Int) * c) t) (Fin { s₁ with heap := g }) n 0 [] news) :
    SrcS prog w A h₀ L m env elt x scope cl Fin (.ref r) s₁ := ⟨r, a, b, c, t, u, v, n, news, rfl, hh, F, N, hr, hsm, hn, hsz, fun _ ⟨g, e⟩ => e ▸ h g⟩
theorem stepW {I : Addr} (hh : A.handled = none) (a c : Int) (n : Nat) : Walks prog w A I [I] [I] n (fun i v => ∃ t, v = .int (a + (i : Int) * c) t) (fun i h => IsRangeIter h I (a + (i : Nat) * c) ((n : Int) - (i : Nat)) c) :=
  let W : Walks prog w A I [I] [I] n (fun i v => i < n ∧ ∃ t, v = .int (a + i * c) t) (fun i h => IsRangeIter h I (a + (i : Nat) * c) ((n : Int) - (i : Nat)) c) := (Walks.range hh I a c n).bound
  { sub := W.sub, frame := W.frame, done := W.done, self := W.self,
    item := fun i s Q E hi st hQ => W.item i s Q E hi st fun v h' tk hP => hQ v h' tk (by obtain ⟨_, t, rfl⟩ := hP; exact ⟨t, rfl⟩) }
theorem stepSt {I : Addr} {a c : Int} {n : Nat} : ∀ i (h h' : Heap) (o : Obj) (nw : List (Addr × Obj)), IsRangeIter h I (a + (i : Nat) * c) ((n : Int) - (i : Nat)) c → h.get? I = some o → h'.get? I = some o → (∀ b o, h₀.get? b = some o → h'.get? b = some o) → News h₀ L h' nw → True → IsRangeIter h' I (a + (i : Nat) * c) ((n : Int) - (i : Nat)) c :=
  fun i h h' o nw st e e' _ _ _ => by
    have st' : h.get? I = some _ := st
    show h'.get? I = some _
    rw [e', ← e]; exact st'
theorem ListComp_S {elt iter : Expr} {x : Str} {px : Pos} {scope : Scope} {cl : List (Str × Addr)} {pos : Pos} {Q : Value → Shared → Prop} (F₀ : Fr h₀ L s.heap m)
    (hclos : closureFor scope env = pure cl) (hcell : ∀ y ∈ scope.names, y.2 ≠ .cell) (hkind : scope.kind = .function)
    (hnames : ∀ y ∈ scope.names, y.2 = .local → scope.names.lookup y.1 = some .local) (hx : scope.names.lookup x = some .local)
    (h : wpAny (model prog w) A (eval iter env) (SrcS prog w A h₀ L m env elt x scope cl (fun s₂ => FinE h₀ L m s₂ Q)) E s)
    (hs : ∀ x, foldedSetIterable iter env x = pure x := by intro _; rfl) :
    wpAny (model prog w) A (eval (.ListComp elt [⟨.Name x px, iter, [], 0⟩] scope pos) env) Q E s := by
  rw [eval_ListComp]
  refine wpAny_comprehension_free (use := none) rfl hs hclos hkind hnames (wpAny_mono h (fun xv s₁ h₁ => ?_) fun _ _ e => e)
  obtain ⟨r, a, b, c, t, u, v, n, news, rfl, hh, F, N, hr, hsm, hn, hsz, R⟩ := h₁
  refine wpAny_pyIter_range hr hsm ?_
  refine block_U (stepW hh a c n) hsz (fun i h st => ⟨_, st⟩) stepSt hcell hkind hx (by show IsRangeIter _ _ _ _ _; rw [hn]; simpa using Heap.get?_push_size _ rfl) (fun b hb => ?_)
    (F.keeps fun _ _ e => Heap.get?_push_of_some _ e) (N.grown fun _ _ e => Heap.get?_push_of_some _ e) (Nat.ne_of_lt F.ns.lt) (next_is_new F) (fun p hp => Nat.ne_of_lt (Heap.lt_size (N p hp).1)) trivial (R _ ⟨_, rfl⟩) ?_
  · rw [List.mem_singleton.mp hb]
    show s₁.heap.objs.size < (s₁.heap.push _).objs.size
    rw [Heap.size_push]; exact Nat.lt_succ_self _
  · intro D C h tk m' ys news' F' N' o1 hn hC₀ hD₀ hCL hDL hCD offC fin
    refine ⟨m', hn, fun h'' hs'' => fin D h'' tk (F'.change hs'' hCL hC₀) (fun p hp => ?_) o1⟩
    refine ⟨hs''.extBut _ _ ?_ (N' p hp).1, (N' p hp).2⟩
    rcases List.mem_cons.mp hp with rfl | hp
    · exact Ne.symm hCD
    · exact offC p hp
end
theorem small_step {b c : Int} (hb : 0 ≤ b) (hb' : b < 1000) (hc : 1 ≤ c) (hc' : c < 1000) : Builtin.Range.small 0 b c = true := by
  have h1 : Builtin.Range.rangeSize 0 b c = (b + c - 1) / c := rangeSize_pos hc hb
  have h2 : 0 ≤ (b + c - 1) / c := Int.ediv_nonneg (by omega) (by omega)
  have h3 : (b + c - 1) / c ≤ b + c - 1 := Int.ediv_le_self _ (by omega)
  unfold Builtin.Range.small
  rw [h1]
  generalize (b + c - 1) / c = q at *
  simp only [Builtin.Range.rangeFitsLong, Bool.and_eq_true, Bool.or_eq_true, decide_eq_true_eq, beq_iff_eq, show c > 0 by omega, if_true]
  omega
end Mine
end
section
open PySem PySem.W PySem.W.X PyProof.Rows
namespace Mine
/-- a word cut into lines: what is left of it, the line at hand, its width -/
def chopGo (W : Int) : List Nat → List Nat → Int → List (List Nat)
  | [], line, size => if size > 0 then [line] else []
  | c :: r, line, size => if size + wd c > W then line :: chopGo W r [c] (wd c) else chopGo W r (line ++ [c]) (size + wd c)
def chop (W : Int) (l : List Nat) : List (List Nat) := chopGo W l [] 0
theorem wd_pos (c : Nat) : 1 ≤ wd c := by unfold wd; split <;> omega
theorem wd_le (c : Nat) : wd c ≤ 2 := by unfold wd; split <;> omega
theorem sizeL_nil : sizeL [] = 0 := rfl
theorem sizeL_cons (c : Nat) (l : List Nat) : sizeL (c :: l) = wd c + sizeL l := by unfold sizeL; rw [List.map_cons, List.sum_cons]
theorem sizeL_append (a b : List Nat) : sizeL (a ++ b) = sizeL a + sizeL b := by unfold sizeL; rw [List.map_append, List.sum_append]
theorem sizeL_nonneg : ∀ l : List Nat, 0 ≤ sizeL l
  | [] => Int.le_refl 0
  | c :: l => by rw [sizeL_cons]; have := wd_pos c; have := sizeL_nonneg l; omega
theorem sizeL_len : ∀ l : List Nat, (l.length : Int) ≤ sizeL l
  | [] => Int.le_refl 0
  | c :: l => by rw [sizeL_cons, List.length_cons]; have := wd_pos c; have := sizeL_len l; omega
/-- narrow signs only: pieces of W -/
theorem chopGo_narrow (W : Nat) (hW : 1 ≤ W) : ∀ (l line : List Nat), (∀ c ∈ l, wd c = 1) → line.length ≤ W → 1 ≤ l.length + line.length →
    chopGo W l line line.length = if l.length + line.length ≤ W then [line ++ l] else (line ++ l.take (W - line.length)) :: chopGo W (l.drop (W - line.length)) [] 0
  | [], line, _, h, h1 => by
    simp only [List.length_nil] at h1 ⊢
    rw [if_pos (by omega)]
    unfold chopGo
    rw [if_pos (by omega), List.append_nil]
  | c :: r, line, hc, h, _ => by
    have hc1 := hc c (.head _)
    have hr : ∀ d ∈ r, wd d = 1 := fun d hd => hc d (.tail _ hd)
    rw [show chopGo W (c :: r) line line.length = if (line.length : Int) + wd c > W then line :: chopGo W r [c] (wd c) else chopGo W r (line ++ [c]) (line.length + wd c) from rfl, hc1]
    by_cases hf : (line.length : Int) + 1 > W
    · have e : line.length = W := by omega
      rw [if_pos hf, if_neg (by simp only [List.length_cons]; omega), e, Nat.sub_self, List.take_zero, List.drop_zero, List.append_nil]
      rw [show chopGo W (c :: r) [] 0 = if (0 : Int) + wd c > W then [] :: chopGo W r [c] (wd c) else chopGo W r ([] ++ [c]) (0 + wd c) from rfl, hc1, if_neg (by omega)]
      rfl
    · rw [if_neg hf]
      have ih := chopGo_narrow W hW r (line ++ [c]) hr (by rw [List.length_append, List.length_singleton]; omega) (by rw [List.length_append, List.length_singleton]; omega)
      rw [List.length_append, List.length_singleton] at ih
      rw [show ((line.length : Int) + 1) = ((line.length + 1 : Nat) : Int) by omega, ih]
      obtain ⟨k, hk⟩ : ∃ k, W - line.length = k + 1 := ⟨W - line.length - 1, by omega⟩
      rw [hk, show W - (line.length + 1) = k by omega, List.take_succ_cons, List.drop_succ_cons, List.length_cons]
      simp only [List.append_assoc, List.singleton_append]
      by_cases hl : r.length + (line.length + 1) ≤ W
      · rw [if_pos hl, if_pos (by omega)]
      · rw [if_neg hl, if_neg (by omega)]
theorem chop_narrow_step (W : Nat) (hW : 1 ≤ W) (l : List Nat) (hl : ∀ c ∈ l, wd c = 1) (hn : l ≠ []) : chop W l = l.take W :: chop W (l.drop W) := by
  have hp : 1 ≤ l.length := List.length_pos_iff.mpr hn
  have := chopGo_narrow W hW l [] hl (Nat.zero_le _) (by simpa using hp)
  unfold chop
  rw [show (0 : Int) = (([] : List Nat).length : Int) from rfl, this]
  simp only [List.length_nil, Nat.add_zero, Nat.sub_zero, List.nil_append]
  by_cases h : l.length ≤ W
  · rw [if_pos h, List.take_of_length_le h, List.drop_eq_nil_of_le h]
    rfl
  · rw [if_neg h]
    rfl
def pieces (W : Nat) (l : List Nat) (m : Nat) : List (List Nat) := (List.range m).map fun k => (l.drop (k * W)).take W
theorem pieces_succ (W : Nat) (l : List Nat) (m : Nat) : pieces W l (m + 1) = l.take W :: pieces W (l.drop W) m := by
  unfold pieces
  rw [List.range_succ_eq_map, List.map_cons, List.map_map, Nat.zero_mul, List.drop_zero]
  congr 1
  refine List.map_congr_left fun k _ => ?_
  show (l.drop ((k + 1) * W)).take W = _
  rw [List.drop_drop, Nat.succ_mul, Nat.add_comm]
theorem chop_pieces (W : Nat) (hW : 1 ≤ W) : ∀ (m : Nat) (l : List Nat), (∀ c ∈ l, wd c = 1) → (l.length + W - 1) / W = m → chop W l = pieces W l m
  | 0, l, hl, hm => by
    have : l.length = 0 := by
      rcases Nat.eq_zero_or_pos l.length with h | h
      · exact h
      · have h1 : 0 < (l.length + W - 1) / W := Nat.div_pos (by omega) (by omega)
        omega
    rw [List.length_eq_zero_iff.mp this]
    rfl
  | m + 1, l, hl, hm => by
    have hn : l ≠ [] := fun e => by
      subst e
      rw [List.length_nil, Nat.zero_add, Nat.div_eq_of_lt (by omega)] at hm
      cases hm
    rw [chop_narrow_step W hW l hl hn, pieces_succ, chop_pieces W hW m (l.drop W) (fun c hc => hl c (List.mem_of_mem_drop hc)) ?_]
    rw [List.length_drop]
    have hp : 1 ≤ l.length := List.length_pos_iff.mpr hn
    by_cases h : W ≤ l.length
    · have e : l.length + W - 1 = (l.length - W + W - 1) + W := by omega
      rw [e, Nat.add_div_right _ (by omega)] at hm
      omega
    · have e1 : l.length - W = 0 := by omega
      rw [e1, Nat.zero_add, Nat.div_eq_of_lt (by omega)]
      have h1 : (l.length + W - 1) / W < 2 := (Nat.div_lt_iff_lt_mul (by omega)).mpr (by omega)
      omega
/-- the rest of a word, from the sign i, the line at hand begun at o -/
theorem chopGo_snoc {W : Int} {l : List Nat} {i o : Nat} {size : Int} {c : Nat} (hc : l[i]? = some c) (ho : o ≤ i) (hs : size + wd c ≤ W) :
    chopGo W (l.drop i) ((l.take i).drop o) size = chopGo W (l.drop (i + 1)) ((l.take (i + 1)).drop o) (size + wd c) := by
  obtain ⟨hi, rfl⟩ := List.getElem?_eq_some_iff.mp hc
  rw [List.drop_eq_getElem_cons hi]
  rw [show chopGo W (l[i] :: l.drop (i + 1)) ((l.take i).drop o) size = if size + wd l[i] > W then ((l.take i).drop o) :: chopGo W (l.drop (i + 1)) [l[i]] (wd l[i]) else chopGo W (l.drop (i + 1)) ((l.take i).drop o ++ [l[i]]) (size + wd l[i]) from rfl, if_neg (by omega)]
  congr 1
  rw [List.take_add_one, List.getElem?_eq_getElem hi, List.drop_append_of_le_length (by rw [List.length_take]; omega)]
  rfl
theorem chopGo_cut {W : Int} {l : List Nat} {i o : Nat} {size : Int} {c : Nat} (hc : l[i]? = some c) (hs : size + wd c > W) :
    chopGo W (l.drop i) ((l.take i).drop o) size = ((l.take i).drop o) :: chopGo W (l.drop (i + 1)) ((l.take (i + 1)).drop i) (wd c) := by
  obtain ⟨hi, rfl⟩ := List.getElem?_eq_some_iff.mp hc
  rw [List.drop_eq_getElem_cons hi]
  rw [show chopGo W (l[i] :: l.drop (i + 1)) ((l.take i).drop o) size = if size + wd l[i] > W then ((l.take i).drop o) :: chopGo W (l.drop (i + 1)) [l[i]] (wd l[i]) else chopGo W (l.drop (i + 1)) ((l.take i).drop o ++ [l[i]]) (size + wd l[i]) from rfl, if_pos hs]
  congr 2
  rw [List.take_add_one, List.getElem?_eq_getElem hi, List.drop_append_of_le_length (by rw [List.length_take]; omega), List.drop_eq_nil_of_le (by rw [List.length_take]; omega)]
  rfl
end Mine
end
section
open PySem PySem.W PySem.W.X PyProof.Rows
namespace Mine
/-! the chopped word -/
theorem chopGo_flat {W : Int} : ∀ (l line : List Nat) (size : Int), 0 ≤ size → (size = 0 → line = []) → (chopGo W l line size).flatten = line ++ l
  | [], line, size, h0, h => by
    unfold chopGo
    by_cases hs : size > 0
    · rw [if_pos hs]; simp
    · rw [if_neg hs, h (by omega)]; rfl
  | c :: r, line, size, h0, h => by
    have h1 := wd_pos c
    unfold chopGo
    by_cases hs : size + wd c > W
    · rw [if_pos hs, List.flatten_cons, chopGo_flat r [c] (wd c) (by omega) (by omega)]; simp
    · rw [if_neg hs, chopGo_flat r (line ++ [c]) (size + wd c) (by omega) (by omega)]; simp
theorem chopGo_fit {W : Int} (hW : 2 ≤ W) : ∀ (l line : List Nat), sizeL line ≤ W → ∀ p ∈ chopGo W l line (sizeL line), p ≠ [] ∧ sizeL p ≤ W
  | [], line, hs, p, hp => by
    unfold chopGo at hp
    by_cases h : sizeL line > 0
    · rw [if_pos h] at hp
      rw [List.mem_singleton.mp hp]
      exact ⟨fun e => by rw [e] at h; exact absurd h (by decide), hs⟩
    · rw [if_neg h] at hp; cases hp
  | c :: r, line, hs, p, hp => by
    have h1 := wd_pos c
    have h2 := wd_le c
    have e1 : sizeL [c] = wd c := by rw [sizeL_cons, sizeL_nil]; omega
    have e2 : sizeL (line ++ [c]) = sizeL line + wd c := by rw [sizeL_append, e1]
    unfold chopGo at hp
    by_cases h : sizeL line + wd c > W
    · rw [if_pos h, ← e1] at hp
      rcases List.mem_cons.mp hp with rfl | hp
      · refine ⟨fun e => ?_, hs⟩
        rw [e, sizeL_nil] at h; omega
      · exact chopGo_fit hW r [c] (by omega) p hp
    · rw [if_neg h, ← e2] at hp
      exact chopGo_fit hW r (line ++ [c]) (by omega) p hp
theorem chop_flat {W : Int} (l : List Nat) : (chop W l).flatten = l := by
  unfold chop
  rw [chopGo_flat l [] 0 (by omega) (fun _ => rfl)]; rfl
theorem chop_fit {W : Int} (hW : 2 ≤ W) (l : List Nat) : ∀ p ∈ chop W l, p ≠ [] ∧ sizeL p ≤ W := chopGo_fit hW l [] (by rw [sizeL_nil]; omega)
/-! the blanks at the end -/
def rstL (l : List Nat) : List Nat := (l.reverse.dropWhile (· == 32)).reverse
theorem rstL_append {a b : List Nat} (h : ∃ c ∈ b, c ≠ 32) : rstL (a ++ b) = a ++ rstL b := by
  unfold rstL
  rw [List.reverse_append, List.dropWhile_append]
  have : ¬ (List.dropWhile (· == 32) b.reverse).isEmpty = true := by
    intro hn
    obtain ⟨c, hc, h32⟩ := h
    rw [List.isEmpty_iff] at hn
    have h1 := List.takeWhile_append_dropWhile (p := (· == 32)) (l := b.reverse)
    rw [hn, List.append_nil] at h1
    have h2 : c ∈ b.reverse.takeWhile (· == 32) := by rw [h1]; exact List.mem_reverse.mpr hc
    have h3 := List.all_takeWhile (p := (· == 32)) (l := b.reverse)
    have h4 := List.all_eq_true.mp h3 c h2
    exact h32 (by simpa using h4)
  rw [if_neg this, List.reverse_append, List.reverse_reverse]
theorem rstL_blank : ∀ {a b : List Nat}, (∀ c ∈ b, c = 32) → rstL (a ++ b) = rstL a := by
  intro a b h
  unfold rstL
  rw [List.reverse_append, List.dropWhile_append]
  have : (List.dropWhile (· == 32) b.reverse) = [] := by
    have h1 : ∀ l : List Nat, (∀ c ∈ l, c = 32) → l.dropWhile (· == 32) = [] := by
      intro l
      induction l with
      | nil => intro _; rfl
      | cons c l ih =>
        intro h
        rw [List.dropWhile_cons, if_pos (by simp [h c (.head _)])]
        exact ih fun d hd => h d (.tail _ hd)
    exact h1 _ fun c hc => h c (List.mem_reverse.mp hc)
  rw [this]; rfl
theorem rstL_pre (l : List Nat) : ∃ t, l = rstL l ++ t ∧ ∀ c ∈ t, c = 32 := by
  refine ⟨(l.reverse.takeWhile (· == 32)).reverse, ?_, fun c hc => ?_⟩
  · have h1 := List.takeWhile_append_dropWhile (p := (· == 32)) (l := l.reverse)
    have h2 := congrArg List.reverse h1
    rw [List.reverse_append, List.reverse_reverse] at h2
    exact h2.symm
  · have h3 := List.all_takeWhile (p := (· == 32)) (l := l.reverse)
    have h4 := List.all_eq_true.mp h3 c (List.mem_reverse.mp hc)
    simpa using h4
theorem rstL_le (l : List Nat) : sizeL (rstL l) ≤ sizeL l := by
  obtain ⟨t, h, _⟩ := rstL_pre l
  have h1 : sizeL l = sizeL (rstL l) + sizeL t := by rw [← sizeL_append, ← h]
  have := sizeL_nonneg t
  omega
/-! the breaks -/
def seg (x : List Nat) (a b : Nat) : List Nat := (x.drop a).take (b - a)
theorem seg_self (x : List Nat) (a : Nat) : seg x a a = [] := by unfold seg; rw [Nat.sub_self, List.take_zero]
theorem seg_join (x : List Nat) {a b c : Nat} (h1 : a ≤ b) (h2 : b ≤ c) : seg x a b ++ seg x b c = seg x a c := by
  unfold seg
  rw [show x.drop b = (x.drop a).drop (b - a) by rw [List.drop_drop]; congr 1; omega, show c - a = (b - a) + (c - b) by omega, List.take_add]
theorem seg_length {x : List Nat} {a b : Nat} (hb : b ≤ x.length) : (seg x a b).length = b - a := by unfold seg; rw [List.length_take, List.length_drop]; omega
theorem seg_all (x : List Nat) : seg x 0 x.length = x := by unfold seg; rw [List.drop_zero, Nat.sub_zero, List.take_length]
def parts (a : Nat) (found : List Nat) (used : Int) : List (List Nat) → List Nat × Int
  | [] => (found, used)
  | p :: r => parts (a + p.length) (if a = 0 then found else found ++ [a]) (sizeL p) r
def brkStep (x : List Nat) (W : Int) (fold : Bool) (a b : Nat) (st : List Nat × Int) : List Nat × Int :=
  if sizeL (rstL (seg x a b)) ≤ W - st.2 then (st.1, st.2 + sizeL (seg x a b))
  else if sizeL (rstL (seg x a b)) ≤ W then (if st.2 ≠ 0 ∧ a ≠ 0 then (st.1 ++ [a], sizeL (seg x a b)) else st)
  else if fold then parts a st.1 st.2 (chop W (seg x a b))
  else (if a = 0 then st.1 else st.1 ++ [a], sizeL (seg x a b))
def brks (x : List Nat) (W : Int) (fold : Bool) (Ws : List (Nat × Nat)) (st : List Nat × Int) : List Nat × Int := Ws.foldl (fun st p => brkStep x W fold p.1 p.2 st) st
inductive Chn (P : Nat → Nat → Prop) (a : Nat) : List Nat → Nat → Prop
  | nil : Chn P a [] a
  | snoc {l b c} : Chn P a l b → P b c → Chn P a (l ++ [c]) c
/-- a line from p to q -/
def LnOk (x : List Nat) (W : Int) (fold : Bool) (p q : Nat) : Prop := p ≤ q ∧ (fold = true → sizeL (rstL (seg x p q)) ≤ W)
structure BInv (x : List Nat) (W : Int) (fold : Bool) (pos : Nat) (st : List Nat × Int) : Prop where
  le : pos ≤ x.length
  ex : ∃ lb, Chn (LnOk x W fold) 0 st.1 lb ∧ LnOk x W fold lb pos ∧ (pos = 0 → st = ([], 0)) ∧ (0 < pos → lb < pos ∧ st.2 = sizeL (seg x lb pos))
theorem BInv.init {x : List Nat} {W : Int} {fold : Bool} (hW : 2 ≤ W) : BInv x W fold 0 ([], 0) :=
  ⟨Nat.zero_le _, 0, .nil, ⟨Nat.le_refl _, fun _ => by rw [seg_self]; show sizeL [] ≤ W; rw [sizeL_nil]; omega⟩, fun _ => rfl, fun h => absurd h (Nat.lt_irrefl _)⟩
/-- a new line at a -/
theorem BInv.cut {x : List Nat} {W : Int} {fold : Bool} {a b : Nat} {st : List Nat × Int} (h : BInv x W fold a st) (hab : a < b) (hb : b ≤ x.length) (hg : fold = true → sizeL (rstL (seg x a b)) ≤ W) :
    BInv x W fold b (if a = 0 then st.1 else st.1 ++ [a], sizeL (seg x a b)) := by
  obtain ⟨_, lb, hc, hl, h0, h1⟩ := h
  by_cases ha : a = 0
  · subst ha
    have e := h0 rfl
    subst e
    rw [if_pos rfl]
    have e0 : lb = 0 := by have := hl.1; omega
    subst e0
    exact ⟨hb, 0, hc, ⟨Nat.zero_le _, hg⟩, fun e => by omega, fun _ => ⟨hab, rfl⟩⟩
  · rw [if_neg ha]
    exact ⟨hb, a, .snoc hc hl, ⟨Nat.le_of_lt hab, hg⟩, fun e => by omega, fun _ => ⟨hab, rfl⟩⟩
theorem BInv.parts {x : List Nat} {W : Int} {fold : Bool} : ∀ (ps : List (List Nat)) (a b : Nat) (found : List Nat) (used : Int), (∀ p ∈ ps, p ≠ [] ∧ sizeL p ≤ W) → ps.flatten = seg x a b → a ≤ b → b ≤ x.length → BInv x W fold a (found, used) →
    BInv x W fold b (Mine.parts a found used ps)
  | [], a, b, found, used, _, hf, hab, hb, h => by
    have : b - a = 0 := by rw [← seg_length (a := a) hb, ← hf]; rfl
    have e : a = b := by omega
    subst e
    exact h
  | p :: r, a, b, found, used, hp, hf, hab, hb, h => by
    obtain ⟨hne, hsz⟩ := hp p (.head _)
    have hpl : 1 ≤ p.length := List.length_pos_iff.mpr hne
    have hlen : p.length + r.flatten.length = b - a := by rw [← seg_length (a := a) hb, ← hf, List.flatten_cons, List.length_append]
    have hab' : a + p.length ≤ b := by omega
    have hj := seg_join x (a := a) (b := a + p.length) (c := b) (by omega) hab'
    have hl1 : (seg x a (a + p.length)).length = p.length := by rw [seg_length (by omega)]; omega
    rw [← hf, List.flatten_cons] at hj
    obtain ⟨e1, e2⟩ := List.append_inj hj hl1
    have hcut := BInv.cut h (b := a + p.length) (by omega) (by omega) (fun _ => by rw [e1]; exact Int.le_trans (rstL_le p) hsz)
    rw [e1] at hcut
    exact BInv.parts r (a + p.length) b _ _ (fun q hq => hp q (.tail _ hq)) e2.symm hab' hb hcut
theorem BInv.step {x : List Nat} {W : Int} {fold : Bool} {a b : Nat} {st : List Nat × Int} (hW : 2 ≤ W) (h : BInv x W fold a st) (hab : a < b) (hb : b ≤ x.length) (hw : ∃ c ∈ seg x a b, c ≠ 32) :
    BInv x W fold b (brkStep x W fold a b st) := by
  have h' := h
  obtain ⟨_, lb, hc, hl, h0, h1⟩ := h
  unfold brkStep
  by_cases hf : sizeL (rstL (seg x a b)) ≤ W - st.2
  · rw [if_pos hf]
    by_cases ha : a = 0
    · subst ha
      have e := h0 rfl
      subst e
      have e0 : lb = 0 := by have := hl.1; omega
      subst e0
      dsimp only at hf ⊢
      refine ⟨hb, 0, hc, ⟨Nat.zero_le _, fun _ => by omega⟩, fun e => by omega, fun _ => ⟨hab, ?_⟩⟩
      show 0 + sizeL (seg x 0 b) = _
      omega
    · obtain ⟨h2, h3⟩ := h1 (by omega)
      have hj := seg_join x (a := lb) (b := a) (c := b) hl.1 (Nat.le_of_lt hab)
      refine ⟨hb, lb, hc, ⟨by omega, fun _ => ?_⟩, fun e => by omega, fun _ => ⟨by omega, ?_⟩⟩
      · rw [← hj, rstL_append hw, sizeL_append]; omega
      · rw [← hj, sizeL_append]; show st.2 + _ = _; omega
  · rw [if_neg hf]
    by_cases hs : sizeL (rstL (seg x a b)) ≤ W
    · rw [if_pos hs]
      have ha : a ≠ 0 := fun e => by
        have := h0 e
        rw [this] at hf
        dsimp only at hf
        omega
      obtain ⟨h2, h3⟩ := h1 (by omega)
      have hu : st.2 ≠ 0 := by
        have h4 := sizeL_len (seg x lb a)
        rw [seg_length (by omega)] at h4
        omega
      rw [if_pos ⟨hu, ha⟩]
      have := h'.cut hab hb (fun _ => hs)
      rw [if_neg ha] at this
      exact this
    · rw [if_neg hs]
      by_cases hfo : fold = true
      · rw [if_pos hfo]
        exact BInv.parts _ a b _ _ (chop_fit hW _) (chop_flat _) (Nat.le_of_lt hab) hb h'
      · rw [if_neg hfo]
        exact h'.cut hab hb (fun e => absurd e hfo)
end Mine
end
section
open PySem PySem.W PySem.W.X PyProof.Rows
namespace Mine
theorem takeWhile_ok : ∀ (l : List Nat), (∀ c ∈ l, okc c) → l.takeWhile Unicode.isSpace = l.takeWhile (· == 32)
  | [], _ => rfl
  | c :: r, h => by rw [List.takeWhile_cons, List.takeWhile_cons, sp_ok (h c (.head _)), takeWhile_ok r fun d hd => h d (.tail _ hd)]
theorem rst_list {z : Str} (h : okx z) : (Txt.rstrip z).cps.toList = rstL z.cps.toList := by
  have e : Txt.rstrip z = Builtin.Str.strSub z 0 (z.length - ((z.cps.toList.drop 0).reverse.takeWhile Unicode.isSpace).length) := by
    unfold Txt.rstrip
    rw [PyProof.Rows.stripBy_eq]
    rfl
  rw [e, List.drop_zero, takeWhile_ok _ fun c hc => h c (List.mem_reverse.mp hc)]
  show (z.cps.extract 0 _).toList = _
  unfold rstL
  have h1 := List.takeWhile_append_dropWhile (p := (· == 32)) (l := z.cps.toList.reverse)
  generalize z.cps.toList.reverse.takeWhile (· == 32) = tw at h1 ⊢
  generalize z.cps.toList.reverse.dropWhile (· == 32) = dw at h1 ⊢
  have h2 := congrArg List.reverse h1
  rw [List.reverse_append, List.reverse_reverse] at h2
  have hl : z.length = dw.length + tw.length := by
    show z.cps.size = _
    rw [← Array.length_toList, ← h2]; simp
  rw [Array.toList_extract, ← h2, hl]
  simp
theorem nsp_word {t : Array Nat} {j : Nat} (h : 1 ≤ cnt nsp t j) : j < t.size ∧ t.getD j 0 ≠ 32 := by
  obtain ⟨h1, h2⟩ := cnt_pre nsp t 0 j h
  rw [Nat.add_zero] at h1 h2
  refine ⟨h1, fun e => ?_⟩
  rw [e] at h2
  exact absurd h2 (by decide)
theorem blank_rest {t : Array Nat} {p : Nat} (h : cnt nsp t (p + cnt isp t p) = 0) : ∀ c ∈ t.toList.drop p, c = 32 := by
  unfold cnt at h
  have h1 := List.takeWhile_append_dropWhile (p := isp) (l := t.toList.drop p)
  have h2 : t.toList.drop (p + ((t.toList.drop p).takeWhile isp).length) = (t.toList.drop p).dropWhile isp := by
    rw [← List.drop_drop]
    conv => lhs; arg 2; rw [← h1]
    rw [List.drop_left']
    rfl
  rw [h2] at h
  have h3 : (t.toList.drop p).dropWhile isp = [] := by
    cases hd : (t.toList.drop p).dropWhile isp with
    | nil => rfl
    | cons c r =>
      rw [hd] at h
      have h4 := List.head?_dropWhile_not isp (t.toList.drop p)
      rw [hd] at h4
      have hc : isp c = false := by simpa using h4
      have hn : nsp c = true := by
        have : (c == 32) = false := hc
        unfold nsp; rw [this]; rfl
      rw [List.takeWhile_cons, if_pos hn] at h
      simp at h
  rw [h3, List.append_nil] at h1
  intro c hc
  rw [← h1] at hc
  have h4 := List.all_eq_true.mp (List.all_takeWhile (p := isp) (l := t.toList.drop p)) c hc
  have h5 : (c == 32) = true := h4
  simpa using h5
theorem words_inv {t : Array Nat} {W : Int} {fold : Bool} (hW : 2 ≤ W) {p : Nat} {l : List (Nat × Nat)} (hw : WordsAt t p l) : ∀ st, p ≤ t.size → BInv t.toList W fold p st →
    ∃ q, BInv t.toList W fold q (brks t.toList W fold l st) ∧ ∀ c ∈ t.toList.drop q, c = 32 := by
  induction hw with
  | nil h => exact fun st hp hI => ⟨_, hI, blank_rest h⟩
  | @cons p l h1 h2 h3 ih =>
    intro st hp hI
    have hle := wend_le hp
    obtain ⟨hj1, hj2⟩ := nsp_word h2
    have hab : p < wend t p := by unfold wend; omega
    have hpj : p + cnt isp t p < wend t p := by unfold wend; omega
    refine ih _ hle (hI.step hW hab (by simpa using hle) ⟨t.getD (p + cnt isp t p) 0, ?_, hj2⟩)
    unfold seg
    rw [List.mem_iff_getElem?]
    refine ⟨cnt isp t p, ?_⟩
    rw [List.getElem?_take, if_pos (by omega), List.getElem?_drop]
    simp [Array.getD, hj1]
def cuts (x : List Nat) : Nat → List Nat → List (List Nat)
  | _, [] => []
  | a, b :: r => seg x a b :: cuts x b r
def HChn (P : Nat → Nat → Prop) : Nat → List Nat → Nat → Prop
  | a, [], c => a = c
  | a, b :: r, c => P a b ∧ HChn P b r c
theorem HChn.snoc {P : Nat → Nat → Prop} {b c : Nat} (h : P b c) : ∀ {l : List Nat} {a : Nat}, HChn P a l b → HChn P a (l ++ [c]) c
  | [], a, e => by
    have e' : a = b := e
    subst e'; exact ⟨h, rfl⟩
  | _ :: _, _, e => ⟨e.1, HChn.snoc h e.2⟩
theorem Chn.head {P : Nat → Nat → Prop} {a c : Nat} {l : List Nat} (h : Chn P a l c) : HChn P a l c := by
  induction h with
  | nil => rfl
  | snoc _ h ih => exact HChn.snoc h ih
theorem cuts_all {x : List Nat} {W : Int} {fold : Bool} : ∀ {l : List Nat} {a c : Nat}, HChn (LnOk x W fold) a l c → a ≤ c ∧ (cuts x a l).flatten = seg x a c ∧ ∀ p ∈ cuts x a l, fold = true → sizeL (rstL p) ≤ W
  | [], a, c, h => by
    have e : a = c := h
    subst e
    exact ⟨Nat.le_refl _, by rw [seg_self]; rfl, fun p hp => nomatch hp⟩
  | b :: r, a, c, h => by
    obtain ⟨⟨h1, h2⟩, h3⟩ := h
    obtain ⟨i1, i2, i3⟩ := cuts_all h3
    refine ⟨Nat.le_trans h1 i1, ?_, fun p hp => ?_⟩
    · show (seg x a b :: cuts x b r).flatten = _
      rw [List.flatten_cons, i2, seg_join x h1 i1]
    · rcases List.mem_cons.mp hp with rfl | hp
      · exact h2
      · exact i3 p hp
theorem cuts_length (x : List Nat) : ∀ (l : List Nat) (a : Nat), (cuts x a l).length = l.length
  | [], _ => rfl
  | b :: r, a => by
    show (seg x a b :: cuts x b r).length = _
    rw [List.length_cons, List.length_cons, cuts_length x r b]
theorem cuts_get {x : List Nat} : ∀ {l : List Nat} {a k p q : Nat}, (a :: l)[k]? = some p → l[k]? = some q → (cuts x a l)[k]? = some (seg x p q)
  | [], _, _, _, _, _, h => by simp at h
  | b :: r, a, 0, p, q, h1, h2 => by
    simp only [List.getElem?_cons_zero, Option.some.injEq] at h1 h2
    subst h1 h2
    rfl
  | b :: r, a, k + 1, p, q, h1, h2 => by
    simp only [List.getElem?_cons_succ] at h1 h2
    show (seg x a b :: cuts x b r)[k + 1]? = _
    rw [List.getElem?_cons_succ]
    exact cuts_get h1 h2
/-- the whole line, cut at the breaks -/
theorem brks_all {t : Array Nat} {W : Int} {fold : Bool} (hW : 2 ≤ W) {l : List (Nat × Nat)} (hw : WordsAt t 0 l) :
    HChn (LnOk t.toList W fold) 0 ((brks t.toList W fold l ([], 0)).1 ++ [t.size]) t.size := by
  obtain ⟨q, ⟨hq, lb, hc, hl, h0, h1⟩, hb⟩ := words_inv hW hw ([], 0) (Nat.zero_le _) (BInv.init (fold := fold) hW)
  have hsz : t.toList.length = t.size := by simp
  refine HChn.snoc ⟨by have := hl.1; omega, fun hf => ?_⟩ hc.head
  rw [← seg_join t.toList (a := lb) (b := q) (c := t.size) hl.1 (by omega), rstL_blank]
  · exact hl.2 hf
  · intro c hc
    refine hb c ?_
    unfold seg at hc
    exact List.mem_of_mem_take hc
end Mine
end
section
open PySem PySem.W PySem.W.X PySem.Calls PyProof.Rows
namespace Mine
local macro_rules | `(tactic| k_room) => `(tactic| ((try simp only [depth_under_make, depth_under_kw, depth_in1, depth_deeper, depth_caller]); (simp only [recursionLimit] at *); omega))
local macro_rules | `(tactic| cell_enter) => `(tactic| first
  | (refine' pEnter [] ?k1 ?k2 ?k6 ?k7 ?k8 ?k9 ?kB ?_ ?c2 ?c3 ?c4 ?c5; (case k1 => k_asm); (case k2 => exact TopRead.nolimit (by assumption)); (case k6 => k_is); (case k7 => k_is); (case k8 => k_room); (case k9 => first | exact BindsTo.of_eq rfl | exact binds_K (by k_in) rfl (by k_is) rfl rfl rfl | fail "no rule for these arguments"); (case c5 => decide); (case kB => exact locs rfl); (case c2 => exact rfl); (case c3 => exact rfl); (case c4 => exact rfl); k_whole; intro h₁ L₁ hL₁ F₁ K₁; (rw [hideNil] at F₁); (have N₁ := newsNil F₁); (try dsimp only); (try k_fold))
  | (refine' pEnterC [] ?k1 ?k2 ?k6 ?k7 ?k8 ?k9 ?kB ?kD ?_ ?c2 ?c3 ?c4; (case k1 => k_asm); (case k2 => exact TopRead.nolimit (by assumption)); (case k6 => k_is); (case k7 => k_is); (case k8 => k_room); (case k9 => first | exact BindsTo.of_eq rfl | exact binds_K (by k_in) rfl (by k_is) rfl rfl rfl | fail "no rule for these arguments"); (case kB => exact rfl); (case kD => decide +kernel); (case c2 => exact rfl); (case c3 => exact rfl); (case c4 => exact rfl); k_whole; intro h₁ L₁ tk₁ cells₁ hL₁ F₁ N₁ Y₁ K₁ C₁; (rw [hideNil] at F₁ N₁); k_cells Y₁; (try simp only [List.cons_append, List.nil_append] at N₁); (try dsimp only); (try k_fold)))

local macro_rules | `(tactic| walk_at "exec For") => `(tactic| (k_here; (with_reducible show wpAny _ _ (exec (Stmt.For _ _ _ _ _) _) _ _ _); (refine' For_G ?_ (fun _ => rfl))))
local macro_rules | `(tactic| walk_at "eval ListComp") => `(tactic| (k_here; k_dflt (refine ListComp_S (F₀ := by k_asm) (by with_unfolding_all rfl) (by decide) (by rfl) (by decide) (by rfl) ?_)))
local macro_rules | `(tactic| walk_at "call ref") => `(tactic| (k_here; (with_reducible show wpAny _ _ (call (Value.ref 201) [Value.str _ _]) _ _ _); (rename Fr _ _ _ _ => F9); (rename News _ _ _ _ => N9); (rename TopRead _ _ _ _ _ => T9); (refine' c_single _ _ _ _ _ _ _ _ _ _ _ _ (Frag.In.keeps ?X (Fr.keep F9)) (TopRead.keeps T9 (Fr.keep F9)) ?d ?u ?p ?_; (case X => assumption); (case d => (try simp only [depth_deeper]); omega); (case u => (try simp only [units_deeper]); omega); (case p => assumption)); (intro v9 h9 tk9 K9 R9); (have F9' := Fr.keeps F9 K9); (have N9' := News.grown N9 K9); clear F9 N9; (rename narrow _ = _ => hn9); (rw [hn9] at R9); (subst R9); (try dsimp only)))
local macro_rules | `(tactic| walk_at "call builtin:list.append") => `(tactic| (k_here; (with_reducible show wpAny _ _ (call (Value.builtin _) [Value.ref _, _]) _ _ _); k_dflt (refine' append_K ?k1 ?k2 ?k3 ?_ ?z; (case k1 => k_asm); (case k2 => k_asm); (case k3 => k_upd); (case z => ((try simp only [List.size_toArray, List.length_map]); (have e9 : (1000 : Nat) ≤ sizeLine := by decide); omega)); k_whole); intro h' F' N'; (try k_sweep)))
theorem indices_min {n : Nat} {i j : Int} (hj : 0 ≤ j) : Builtin.Str.strSliceIndices (some i) (some j) 1 n = Builtin.Str.strSliceIndices (some i) (some (min j (n : Int))) 1 n := by
  have h0 : ¬ j < 0 := by omega
  have h1 : ¬ (min j (n : Int) < 0) := by omega
  have h2 : min (min j (n : Int)) (n : Int) = min j (n : Int) := by omega
  simp only [Builtin.Str.strSliceIndices, h0, h1, h2, if_false, show (1 : Int) > 0 by decide, if_true]
theorem slice_at {x : Str} {i j : Nat} (hi : i ≤ x.cps.size) (hij : i ≤ j) : (Txt.slice x (some (i : Int)) (some (j : Int))).cps.toList = (x.cps.toList.drop i).take (j - i) := by
  have e : Txt.slice x (some (i : Int)) (some (j : Int)) = Txt.slice x (some (i : Int)) (some (min (j : Int) (x.length : Int))) := by
    unfold Txt.slice
    rw [indices_min (by omega)]
  have hl : x.cps.toList.length = x.length := by simp [Str.length]
  have hs : x.length = x.cps.size := rfl
  rw [e, beq_iff_eq.mp (slice_closes (x := x) (i := (i : Int)) (j := min (j : Int) (x.length : Int)) ⟨by omega, by omega, by omega⟩)]
  show (List.take _ _) = _
  rw [show ((i : Int)).toNat = i by omega]
  by_cases h : j ≤ x.length
  · rw [show (min (j : Int) (x.length : Int) - (i : Int)).toNat = j - i by omega]
  · rw [List.take_of_length_le (by rw [List.length_drop]; omega), List.take_of_length_le (by rw [List.length_drop]; omega)]
theorem slice_from {x : Str} {i : Nat} (hi : i ≤ x.cps.size) : (Txt.slice x (some (i : Int)) none).cps.toList = x.cps.toList.drop i := by
  have hl : x.cps.toList.length = x.length := by simp [Str.length]
  have hs : x.length = x.cps.size := rfl
  rw [slice_from_eq (b := (x.length : Int)) (by omega) (by omega) rfl]
  show (List.take _ _) = _
  rw [show ((i : Int)).toNat = i by omega, List.take_of_length_le (by rw [List.length_drop]; omega)]
theorem chop_range {x : Str} {W : Nat} (hW : 1 ≤ W) (hn : narrow x = true) :
    (((List.range (Builtin.Range.rangeSize 0 (x.length : Int) (W : Int)).toNat).map fun (i : Nat) => 0 + (i : Int) * (W : Int)).map fun k => Txt.slice x (some k) (some (k + (W : Int)))).map (fun z => z.cps.toList) = chop (W : Int) x.cps.toList := by
  have hl : x.cps.toList.length = x.length := by simp [Str.length]
  have hs : x.length = x.cps.size := rfl
  have hwd : ∀ c ∈ x.cps.toList, wd c = 1 := fun c hc => by
    have := List.all_eq_true.mp hn c hc
    unfold wd; rw [if_neg (by simpa using this)]
  have hr : (Builtin.Range.rangeSize 0 (x.length : Int) (W : Int)).toNat = (x.length + W - 1) / W := by
    rw [rangeSize_pos (by omega) (by omega)]
    have : ((x.length : Int) + (W : Int) - 1) / (W : Int) = (((x.length + W - 1) / W : Nat) : Int) := by
      rw [Int.natCast_ediv, show ((x.length + W - 1 : Nat) : Int) = (x.length : Int) + (W : Int) - 1 by omega]
    rw [this]; exact Int.toNat_natCast _
  rw [chop_pieces W hW _ x.cps.toList hwd rfl, hl, List.map_map, List.map_map, hr]
  unfold pieces
  refine List.map_congr_left fun k hk => ?_
  have hk' := List.mem_range.mp hk
  have h1 : k * W ≤ x.length := by
    have h2 : (k + 1) * W ≤ x.length + W - 1 := (Nat.le_div_iff_mul_le (by omega)).mp hk'
    rw [Nat.succ_mul] at h2; omega
  show (Txt.slice x (some (0 + (k : Int) * (W : Int))) (some (0 + (k : Int) * (W : Int) + (W : Int)))).cps.toList = _
  rw [show (0 : Int) + (k : Int) * (W : Int) = ((k * W : Nat) : Int) by rw [Int.natCast_mul]; omega, show ((k * W : Nat) : Int) + (W : Int) = ((k * W + W : Nat) : Int) by omega, slice_at (by omega) (by omega), Nat.add_sub_cancel_left]
/-- the spans among the news -/
theorem span_news {x : Str} {h₀ h₁ h' : Heap} {L sp : Addr} {m : Str → Option Value} {ds : List Addr} {k : Nat} (F : Fr h₀ L h₁ m) (S : SpansAt x h₁ h' sp ds k) :
    News h₀ L h' (ownOf h₀ ds h') ∧ (∀ p ∈ ownOf h₀ ds h', p.1 ≠ sp) ∧ ∀ (j : Nat) (d : Addr), ds[j]? = some d → ∃ ta tb tc, (d, ({ cls := .type "tuple", data := .seq #[.int (j : Int) ta, .int ((j + 1 : Nat) : Int) tb, .int (wd (x.cps.getD j 0)) tc] } : Obj)) ∈ ownOf h₀ ds h' := by
  obtain ⟨_, _, _, h⟩ := S
  refine ⟨news_ownOf fun hm => ?_, fun p hp e => ?_, fun j d hj => ?_⟩
  · obtain ⟨j, hj⟩ := List.mem_iff_getElem?.mp hm
    have h1 := (h j _ hj).2.1
    obtain ⟨o, _, _, h2, _⟩ := F.ns
    rw [h1] at h2; cases h2
  · obtain ⟨j, hj⟩ := List.mem_iff_getElem?.mp (ownOf_sub p hp)
    exact (h j _ hj).2.2 e
  · obtain ⟨⟨ta, tb, tc, h1⟩, h2, _⟩ := h j d hj
    refine ⟨ta, tb, tc, mem_ownOf (List.mem_of_getElem? hj) ?_ h1⟩
    cases q : h₀.get? d with
    | none => rfl
    | some o => have := F.keep d o q; rw [h2] at this; cases this
/-- the loop of the wide branch, i spans taken -/
def CJ (x : Str) (W : Nat) (lp : Addr) (rest : List (Addr × Obj)) (g₀ : Array GenState) (i : Nat) (m : Str → Option Value) (nx : List (Addr × Obj)) (g : Array GenState) : Prop :=
  g = g₀ ∧ ∃ (zs : List Str) (vs : List Value) (k o : Nat) (sz : Int) (tl to' : Tok), nx = (lp, PySem.W.listOf vs.toArray k) :: rest ∧ StrsAre vs zs ∧ zs.map (fun z => z.cps.toList) ++ chopGo (W : Int) (x.cps.toList.drop i) ((x.cps.toList.take i).drop o) sz = chop (W : Int) x.cps.toList ∧
    o ≤ i ∧ 0 ≤ sz ∧ sz < 1000 ∧ zs.length ≤ i ∧ m (Str.ofString "line_size") = some (.int sz tl) ∧ m (Str.ofString "line_offset") = some (.int o to') ∧ m (Str.ofString "lines") = some (.ref lp)
theorem slice_mid {x : Str} {o i : Nat} (h1 : o ≤ i) (h2 : i ≤ x.cps.size) : (Txt.slice x (some (o : Int)) (some (i : Int))).cps.toList = (x.cps.toList.take i).drop o := by
  rw [slice_at (by omega) h1, List.drop_take]
theorem CJ.start {x : Str} {W : Nat} {lp : Addr} {rest : List (Addr × Obj)} {g₀ : Array GenState} {m : Str → Option Value} {tl to' : Tok} (e1 : m (Str.ofString "line_size") = some (.int 0 tl)) (e2 : m (Str.ofString "line_offset") = some (.int 0 to')) (e3 : m (Str.ofString "lines") = some (.ref lp)) :
    CJ x W lp rest g₀ 0 m ((lp, PySem.W.listOf (#[] : Array Value) 0) :: rest) g₀ :=
  ⟨rfl, [], [], 0, 0, 0, tl, to', rfl, .nil, by rw [List.map_nil, List.nil_append, List.drop_zero, List.take_zero]; rfl, Nat.le_refl _, by omega, by omega, Nat.le_refl _, e1, e2, e3⟩
theorem strs_push {vs : List Value} {zs : List Str} {z : Str} {t : Tok} (h : StrsAre vs zs) : StrsAre (vs ++ [.str z t]) (zs ++ [z]) := kct_snoc h
theorem CJ.cut {x : Str} {W : Nat} {lp : Addr} {rest : List (Addr × Obj)} {g₀ : Array GenState} {m : Str → Option Value} {i k o : Nat} {sz : Int} {zs : List Str} {vs : List Value} {tz tl to' : Tok} (hi : i < x.cps.size) (hs : StrsAre vs zs)
    (hc : zs.map (fun z => z.cps.toList) ++ chopGo (W : Int) (x.cps.toList.drop i) ((x.cps.toList.take i).drop o) sz = chop (W : Int) x.cps.toList) (ho : o ≤ i) (hl : zs.length ≤ i) (hf : sz + wd (x.cps.getD i 0) > (W : Int))
    (e1 : m (Str.ofString "line_size") = some (.int (0 + wd (x.cps.getD i 0)) tl)) (e2 : m (Str.ofString "line_offset") = some (.int i to')) (e3 : m (Str.ofString "lines") = some (.ref lp)) :
    CJ x W lp rest g₀ (i + 1) m ((lp, PySem.W.listOf (vs.toArray.push (.str (Txt.slice x (some (o : Int)) (some (i : Int))) tz)) k) :: rest) g₀ := by
  have hw := wd_pos (x.cps.getD i 0)
  have hw2 := wd_le (x.cps.getD i 0)
  have hci : x.cps.toList[i]? = some (x.cps.getD i 0) := by simp [Array.getD, hi]
  refine ⟨rfl, zs ++ [Txt.slice x (some (o : Int)) (some (i : Int))], vs ++ [.str (Txt.slice x (some (o : Int)) (some (i : Int))) tz], k, i, wd (x.cps.getD i 0), tl, to', ?_, strs_push hs, ?_, by omega, by omega, by omega, by simp; omega, ?_, e2, e3⟩
  · rw [List.push_toArray]
  · rw [← hc, chopGo_cut hci hf, List.map_append, List.append_assoc, List.map_singleton, slice_mid ho (by omega)]
    rfl
  · rw [e1]; congr 2; omega
theorem CJ.go {x : Str} {W : Nat} {lp : Addr} {rest : List (Addr × Obj)} {g₀ : Array GenState} {m : Str → Option Value} {i k o : Nat} {sz : Int} {zs : List Str} {vs : List Value} {tl to' : Tok} (hi : i < x.cps.size) (hs : StrsAre vs zs)
    (hc : zs.map (fun z => z.cps.toList) ++ chopGo (W : Int) (x.cps.toList.drop i) ((x.cps.toList.take i).drop o) sz = chop (W : Int) x.cps.toList) (ho : o ≤ i) (h0 : 0 ≤ sz) (hl : zs.length ≤ i) (hf : ¬ sz + wd (x.cps.getD i 0) > (W : Int)) (hW : W < 100)
    (e1 : m (Str.ofString "line_size") = some (.int (sz + wd (x.cps.getD i 0)) tl)) (e2 : m (Str.ofString "line_offset") = some (.int o to')) (e3 : m (Str.ofString "lines") = some (.ref lp)) :
    CJ x W lp rest g₀ (i + 1) m ((lp, PySem.W.listOf vs.toArray k) :: rest) g₀ := by
  have hw := wd_pos (x.cps.getD i 0)
  have hci : x.cps.toList[i]? = some (x.cps.getD i 0) := by simp [Array.getD, hi]
  refine ⟨rfl, zs, vs, k, o, sz + wd (x.cps.getD i 0), tl, to', rfl, hs, ?_, by omega, by omega, by omega, by omega, e1, e2, e3⟩
  rw [← hc, chopGo_snoc hci ho (by omega)]
theorem chop_last {W : Int} {x : Str} {o : Nat} {sz : Int} : chopGo W (x.cps.toList.drop x.cps.size) ((x.cps.toList.take x.cps.size).drop o) sz = if sz > 0 then [x.cps.toList.drop o] else [] := by
  have e1 : x.cps.toList.drop x.cps.size = [] := List.drop_of_length_le (by simp)
  have e2 : x.cps.toList.take x.cps.size = x.cps.toList := List.take_of_length_le (by simp)
  rw [e1, e2]
  rfl
theorem c_chop (w : World) (mg mb) (x : Str) (t u : Tok) (W : Nat) (tW : Tok) (dp : Nat) (fr : Option (List Env)) (gd : Option (List Code)) (un : Nat) (s : Shared) (Q E : Value → Shared → Prop)
    (hK : (hd.heap_39 w.params).In s.heap) (hT : TopRead hd.view_39 LP mg mb s.heap) (hdp : dp + 30 < 900) (hun : un + 600 < 9000) (hok : okx x) (hlen : x.length < 500) (hW : 2 ≤ W) (hW2 : W < 100)
    (hret : ∀ D vs n zs h' tk', Keep s.heap h' → h'.get? D = some (PySem.W.listOf vs.toArray n) → s.heap.get? D = none → StrsAre vs zs → zs.map (fun z => z.cps.toList) = chop (W : Int) x.cps.toList → Q (.ref D) { heap := h', gens := s.gens, drawn := s.drawn, toks := tk', os := s.os }) :
    wpAny (model PySem.Challenge.rw_ey0021_01.row.prog w) (AA dp fr gd un) (call (.ref 246) [.str x t] [(Str.ofString "width", .int W tW)]) Q E s := by
  revert hK; k_fill; intro hK
  refine wpAny_call ?_
  k_dflt (refine' pEnterC (binds := [(Str.ofString "text", .str x t), (Str.ofString "width", .int W tW), (Str.ofString "unicode_version", .str (Str.ofString "auto") 656)]) [] ?k1 ?k2 ?k6 ?k7 ?k8 ?k9 ?kB ?kD ?_ ?c2 ?c3 ?c4)
  case k1 => k_asm
  case k2 => exact TopRead.nolimit (by assumption)
  case k6 => k_dflt k_is
  case k7 => k_dflt k_is
  case k8 => k_room
  case k9 =>
    with_unfolding_all exact binds_K (by k_in) rfl (by k_is) rfl rfl (by kernel_rfl)
  case kB => exact rfl
  case kD => decide +kernel
  case c2 => exact rfl
  case c3 => exact rfl
  case c4 => exact rfl
  intro h₁ L₁ tk₁ cells₁ hL₁ F₁ N₁ Y₁ K₁ C₁
  rw [hideNil] at F₁ N₁
  k_cells Y₁
  rename_i oW oT dW0 dT0
  have dW : oW.data = .cell (some (.int W tW)) := dW0
  have dT : oT.data = .cell (some (.str x t)) := dT0
  have F₂ : Fr s.heap L₁ h₁ (fun z => if z = Str.ofString "unicode_version" then some (.str (Str.ofString "auto") 656) else none) := F₁
  clear dW0 dT0 F₁
  (try simp only [List.cons_append, List.nil_append] at N₁)
  (try dsimp only)
  (try k_fold)
  cases hn : narrow x
  · have hn2 : narrow x = false ∧ 0 = 0 := ⟨hn, rfl⟩
    k_steps
    rename Fr _ _ _ _ => F9
    rename News _ _ _ _ => N9
    rename TopRead _ _ _ _ _ => hT
    refine c_split w mg mb x t 656 (dp + 1) _ _ _ _ _ _ (hK.keeps F9.keep) (hT.keeps F9.keep) (by omega) (by (try simp only [units_deeper]); omega) ⟨hok, hlen⟩ ?_
    rintro D sp tt kk ds h8 tk8 K8 eD zD S8
    obtain ⟨Ns, osp, hsp⟩ := span_news F9 S8
    have N8 : News s.heap L₁ h8 ((D, _) :: (sp, _) :: (L₁ + 1 + 1, oW) :: (L₁ + 1, oT) :: ownOf s.heap ds h8) := fun p hp => by
      rcases List.mem_cons.mp hp with rfl | hp
      · exact News.fresh F9 N9 K8 zD eD _ (.head _)
      · rcases List.mem_cons.mp hp with rfl | hp
        · exact News.fresh F9 N9 K8 S8.2.1 S8.1 _ (.head _)
        · rcases List.mem_cons.mp hp with rfl | hp
          · exact News.grown N9 K8 _ (.head _)
          · rcases List.mem_cons.mp hp with rfl | hp
            · exact News.grown N9 K8 _ (.tail _ (.head _))
            · exact Ns p hp
    have F8 := Fr.keeps F9 K8
    have hq2 : (L₁ + 1 + 1 : Nat) ≠ sp := fun e' => by
      have h2 := S8.2.1
      rw [← e', (N9 _ (.head _)).1] at h2
      cases h2
    have hq1 : (L₁ + 1 : Nat) ≠ sp := fun e' => by
      have h2 := S8.2.1
      rw [← e', (N9 _ (.tail _ (.head _))).1] at h2
      cases h2
    clear F9 N9
    k_steps
    rename Fr _ _ _ _ => F9
    rename News _ _ _ _ => N9
    rename_i h61 h62 h63 tk63 h64 lp h65 l9 h66 h67
    have hds := S8.2.2.1
    refine' glist (l := sp) (items := (ds.map Value.ref).toArray) (news := (lp, PySem.W.listOf (#[] : Array Value) 0) :: (L₁ + 1 + 1, oW) :: (L₁ + 1, oT) :: ownOf s.heap ds h8) (CJ x W lp ((L₁ + 1 + 1, oW) :: (L₁ + 1, oT) :: ownOf s.heap ds h8) s.gens) ?hl ?hlL ?hln rfl F9 ?hN (CJ.start rfl rfl rfl) ?hE ?turn ?done
    case hl => exact ⟨_, (N9 _ (.tail _ (.tail _ (.head _)))).1, rfl, _, rfl⟩
    case hlL => exact (N9 _ (.tail _ (.tail _ (.head _)))).2.1
    case hln =>
      intro p hp
      rcases List.mem_cons.mp hp with rfl | hp
      · exact Nat.ne_of_gt l9.2.1
      · rcases List.mem_cons.mp hp with rfl | hp
        · exact hq2
        · rcases List.mem_cons.mp hp with rfl | hp
          · exact hq1
          · exact osp p hp
    case hN =>
      intro p hp
      rcases List.mem_cons.mp hp with rfl | hp
      · exact N9 _ (.head _)
      · exact N9 _ (.tail _ (.tail _ (.tail _ hp)))
    case hE => passes_own
    case turn =>
      rintro i v m₁ nx h tk g own hv hoff hnx how ⟨rfl, zs, vs, k, o, sz, tl, to', rfl, hs, hc, ho, h0, hsz, hl, e1, e2, e3⟩ F N
      have hi : i < ds.length := by
        have := (Array.getElem?_eq_some_iff.mp hv).1
        simpa using this
      have hv' : (ds.map Value.ref)[i]? = some v := by simpa using hv
      rw [List.getElem?_map, List.getElem?_eq_getElem hi] at hv'
      obtain rfl : Value.ref ds[i] = v := by simpa using hv'
      obtain ⟨ta, tb, tc, hmem⟩ := hsp i ds[i] (List.getElem?_eq_getElem hi)
      have F7 := (Fr.know (y := Str.ofString "lines") (Fr.know (y := Str.ofString "line_offset") (Fr.know (y := Str.ofString "line_size") F e1) e2) e3)
      have hsz : i < x.cps.size := by omega
      have hvl : vs.length < 500 := by have := hs.len_eq; have : x.cps.size < 500 := hlen; omega
      have hdl : @LT.lt Nat _ ds[i] lp := allLt_mem l9.2.2.2.2 _ hmem
      have hl2 := l9.2.2.1
      have hl1 := l9.2.2.2.1
      obtain ⟨rr, hrr⟩ : ∃ rr, rr = ownOf s.heap ds h8 ++ own := ⟨_, rfl⟩
      have hro : OwnOff rr [lp] := by
        intro p hp b hb
        rw [List.mem_singleton.mp hb]
        rw [hrr] at hp
        rcases List.mem_append.mp hp with hp | hp
        · exact Nat.ne_of_lt (allLt_mem l9.2.2.2.2 p hp)
        · exact hoff p hp lp (.head _)
      have N6 : News s.heap L₁ h ((ds[i], _) :: (lp, PySem.W.listOf vs.toArray k) :: (L₁ + 1 + 1, oW) :: (L₁ + 1, oT) :: rr) := fun p hp => by
        rcases List.mem_cons.mp hp with rfl | hp
        · exact N _ (.tail _ (.tail _ (.tail _ (List.mem_append_left _ hmem))))
        · rw [hrr] at hp
          exact N p hp
      clear F F9 N9 N
      k_steps
      · rename Fr _ _ _ _ => F9
        rename News _ _ _ _ => N9
        rw [hrr] at N9
        exact GPost.fin (_ :: (L₁ + 1 + 1, oW) :: (L₁ + 1, oT) :: ownOf s.heap ds h8) F9 (fun p hp => N9 p (.tail _ hp)) (fun p hp => by
          rcases List.mem_cons.mp hp with rfl | hp
          · exact hnx (lp, PySem.W.listOf vs.toArray k) (.head _)
          · exact hnx p (.tail _ hp)) (CJ.cut hsz hs hc ho hl (by assumption) rfl rfl rfl)
      · rename Fr _ _ _ _ => F9
        rename News _ _ _ _ => N9
        rw [hrr] at N9
        exact GPost.fin (_ :: (L₁ + 1 + 1, oW) :: (L₁ + 1, oT) :: ownOf s.heap ds h8) F9 (fun p hp => N9 p (.tail _ hp)) (fun p hp => by
          rcases List.mem_cons.mp hp with rfl | hp
          · exact hnx (lp, PySem.W.listOf vs.toArray k) (.head _)
          · exact hnx p (.tail _ hp)) (CJ.go hsz hs hc ho h0 hl (by assumption) hW2 rfl rfl rfl)
    case done =>
      rintro m₁ nx h tk g hnx ⟨rfl, zs, vs, k, o, sz, tl, to', rfl, hs, hc, ho, h0, hsz, hl, e1, e2, e3⟩ F N
      have F7 : Fr s.heap L₁ h _ := (Fr.know (y := Str.ofString "lines") (Fr.know (y := Str.ofString "line_offset") (Fr.know (y := Str.ofString "line_size") F e1) e2) e3)
      have hsn : (ds.map Value.ref).toArray.size = x.cps.size := by simp [hds]
      rw [hsn] at hc ho hl
      have hvl : vs.length < 501 := by have := hs.len_eq; have : x.cps.size < 500 := hlen; omega
      have hl2 := l9.2.2.1
      have hl1 := l9.2.2.2.1
      obtain ⟨rr, hrr⟩ : ∃ rr, rr = ownOf s.heap ds h8 := ⟨_, rfl⟩
      have hro : OwnOff rr [lp] := by
        intro p hp b hb
        rw [List.mem_singleton.mp hb]
        rw [hrr] at hp
        exact Nat.ne_of_lt (allLt_mem l9.2.2.2.2 p hp)
      have N6 : News s.heap L₁ h ((lp, PySem.W.listOf vs.toArray k) :: (L₁ + 1 + 1, oW) :: (L₁ + 1, oT) :: rr) := fun p hp => by
        rw [hrr] at hp
        exact N p hp
      clear F F9 N9 N
      have hbig : (o : Int) ≤ x.length := by have : x.length = x.cps.size := rfl; omega
      k_steps
      · rename Fr _ _ _ _ => F9
        rename News _ _ _ _ => N9
        dsimp only
        have hz : sz > 0 := by omega
        have hN := N9 _ (.head _)
        rw [List.push_toArray] at hN
        refine hret lp _ _ (zs ++ [Txt.slice x (some (o : Int)) none]) _ _ F9.keep hN.1 hN.2.2 (strs_push hs) ?_
        rw [← hc, List.map_append, List.map_singleton, slice_from (by omega), chop_last, if_pos hz]
      · rename Fr _ _ _ _ => F9
        rename News _ _ _ _ => N9
        dsimp only
        have hN := N9 _ (.head _)
        refine hret lp vs k zs _ _ F9.keep hN.1 hN.2.2 hs ?_
        rw [← hc, chop_last, if_neg (by omega), List.append_nil]
  · have hn2 : narrow x = true ∧ 0 = 0 := ⟨hn, rfl⟩
    k_steps
    rename Fr _ _ _ _ => F9
    rename News _ _ _ _ => N9
    rename IsRange _ _ _ _ _ _ _ _ => I9
    have hb : (x.length : Int) < 1000 := by omega
    have hs9 : Builtin.Range.small 0 (x.length : Int) (W : Int) = true := small_step (by omega) hb (by omega) (by omega)
    with_reducible refine' SrcS.mk ?hr ?hs ?hn ?hh ?F ?N ?hsz ?rest
    case hh => rfl
    case hr => exact I9
    case hs => exact hs9
    case hn => exact rangeSize_toNat _ _ _
    case F => exact F9
    case N => exact N9
    case hsz =>
      have h1 := rangeSize_toNat_le 0 (x.length : Int) (W : Int)
      have h2 : (1000 : Nat) ≤ sizeLine := by decide
      refine Nat.le_trans h1 (Nat.le_trans ?_ h2)
      omega
    case rest =>
      intro g
      refine kct_rest (ks := (List.range (Builtin.Range.rangeSize 0 (x.length : Int) (W : Int)).toNat).map fun (i : Nat) => 0 + (i : Int) * (W : Int)) (fun k => Txt.slice x (some k) (some (k + (W : Int)))) (by simp) ?hP ?turn ?fin
      case hP =>
        rintro i v hi ⟨t', rfl⟩
        exact ⟨_, t', by simp [hi], rfl⟩
      case turn =>
        intro k t9 I oI C oC D m2 ys h tk E' hk hC hx F N off ne mk
        have hkb : 0 ≤ k ∧ k < (x.length : Int) := by
          obtain ⟨i, hi, rfl⟩ := List.mem_map.mp hk
          have hi' := List.mem_range.mp hi
          have := start_inside (len := (x.length : Int)) (c := (W : Int)) (v := (i : Int)) (by omega) (by omega) (by omega) (by omega)
          omega
        obtain ⟨hk0, hk1⟩ := hkb
        k_steps
        rename Fr _ _ _ _ => F8
        rename News _ _ _ _ => N8
        exact LCg.CompEnd.intro F8 N8 _ (fun p hp => hp) off trivial ⟨rfl, _, rfl⟩
      case fin =>
        unfold KPfDone
        intro ys hys _ D h tk F N off
        dsimp only
        have hn9 := hn2.1
        have hD := N _ (.head _)
        have hS := CarriedAll.strsOf hys
        refine hret D ys ys.length _ h tk F.keep ?_ ?_ hS ?_
        · exact hD.1
        · exact hD.2.2
        · exact chop_range (by omega) hn9

end Mine
end
section
open PySem PySem.W PySem.W.X PySem.Calls PyProof.Rows
namespace Mine
local macro_rules | `(tactic| k_room) => `(tactic| ((try simp only [depth_under_make, depth_under_kw, depth_in1, depth_deeper, depth_caller]); (simp only [recursionLimit] at *); omega))
local macro_rules | `(tactic| cell_enter) => `(tactic| first
  | (refine' pEnter [] ?k1 ?k2 ?k6 ?k7 ?k8 ?k9 ?kB ?_ ?c2 ?c3 ?c4 ?c5; (case k1 => k_asm); (case k2 => exact TopRead.nolimit (by assumption)); (case k6 => k_is); (case k7 => k_is); (case k8 => k_room); (case k9 => first | exact BindsTo.of_eq rfl | exact binds_K (by k_in) rfl (by k_is) rfl rfl rfl | fail "no rule for these arguments"); (case c5 => decide); (case kB => exact locs rfl); (case c2 => exact rfl); (case c3 => exact rfl); (case c4 => exact rfl); k_whole; intro h₁ L₁ hL₁ F₁ K₁; (rw [hideNil] at F₁); (have N₁ := newsNil F₁); (try dsimp only); (try k_fold))
  | (refine' pEnterC [] ?k1 ?k2 ?k6 ?k7 ?k8 ?k9 ?kB ?kD ?_ ?c2 ?c3 ?c4; (case k1 => k_asm); (case k2 => exact TopRead.nolimit (by assumption)); (case k6 => k_is); (case k7 => k_is); (case k8 => k_room); (case k9 => first | exact BindsTo.of_eq rfl | exact binds_K (by k_in) rfl (by k_is) rfl rfl rfl | fail "no rule for these arguments"); (case kB => exact rfl); (case kD => decide +kernel); (case c2 => exact rfl); (case c3 => exact rfl); (case c4 => exact rfl); k_whole; intro h₁ L₁ tk₁ cells₁ hL₁ F₁ N₁ Y₁ K₁ C₁; (rw [hideNil] at F₁ N₁); k_cells Y₁; (try simp only [List.cons_append, List.nil_append] at N₁); (try dsimp only); (try k_fold)))

local macro_rules | `(tactic| walk_at "exec For") => `(tactic| (k_here; (with_reducible show wpAny _ _ (exec (Stmt.For _ _ _ _ _) _) _ _ _); (refine' For_G ?_ (fun _ => rfl))))
local macro_rules | `(tactic| walk_at "call builtin:list.append") => `(tactic| (k_here; (with_reducible show wpAny _ _ (call (Value.builtin _) [Value.ref _, _]) _ _ _); k_dflt (refine' append_K ?k1 ?k2 ?k3 ?_ ?z; (case k1 => k_asm); (case k2 => k_asm); (case k3 => k_upd); (case z => ((try simp only [List.size_toArray, List.length_map]); (have e9 : (1000 : Nat) ≤ sizeLine := by decide); omega)); k_whole); intro h' F' N'; (try k_sweep)))
theorem size_one (c : Nat) : sizeL (⟨#[c]⟩ : Str).cps.toList = wd c := by show sizeL [c] = _; rw [sizeL_cons, sizeL_nil]; omega
local macro_rules | `(tactic| walk_at "call ref") => `(tactic| (k_here; (with_reducible show wpAny _ _ (call (Value.ref 283) [Value.str _ _]) _ _ _); (rename Fr _ _ _ _ => F9); (rename News _ _ _ _ => N9); (rename TopRead _ _ _ _ _ => T9); (refine' c_lawsize _ _ _ _ _ _ _ _ _ _ _ _ (Frag.In.keeps ?X (Fr.keep F9)) (TopRead.keeps T9 (Fr.keep F9)) ?d ?u ?p ?_; (case X => assumption); (case d => (try simp only [depth_deeper]); omega); (case u => (try simp only [units_deeper]); omega); (case p => (first | assumption | (show (1 : Nat) < 500; decide) | omega))); (intro v9 h9 tk9 K9 R9); (have F9' := Fr.keeps F9 K9); (have N9' := News.grown N9 K9); clear F9 N9; (obtain ⟨t8, e8⟩ := R9); (try rw [size_one] at e8); (subst e8); (try dsimp only)))
/-- the loop of _law_chopped, i signs taken -/
def LJ (x : Str) (W : Nat) (tW : Tok) (lp : Addr) (g₀ : Array GenState) (i : Nat) (m : Str → Option Value) (nx : List (Addr × Obj)) (g : Array GenState) : Prop :=
  g = g₀ ∧ ∃ (zs : List Str) (vs : List Value) (k : Nat) (ln : Str) (sz : Int) (tl ts : Tok), nx = [(lp, PySem.W.listOf vs.toArray k)] ∧ StrsAre vs zs ∧ zs.map (fun z => z.cps.toList) ++ chopGo (W : Int) (x.cps.toList.drop i) ln.cps.toList sz = chop (W : Int) x.cps.toList ∧
    ln.length ≤ i ∧ 0 ≤ sz ∧ sz ≤ 2 * i ∧ zs.length ≤ i ∧ m (Str.ofString "lines") = some (.ref lp) ∧ m (Str.ofString "line") = some (.str ln tl) ∧ m (Str.ofString "size") = some (.int sz ts) ∧ m (Str.ofString "width") = some (.int W tW)
theorem str_snoc (a : Str) (c : Nat) : (a ++ ⟨#[c]⟩ : Str).cps.toList = a.cps.toList ++ [c] := by
  show (a.cps ++ #[c]).toList = _
  simp
theorem str_snoc_len (a : Str) (c : Nat) : (a ++ ⟨#[c]⟩ : Str).length = a.length + 1 := by
  show (a.cps ++ #[c]).size = a.cps.size + 1
  simp
theorem chopGo_cut' {W : Int} {l line : List Nat} {i : Nat} {size : Int} {c : Nat} (hc : l[i]? = some c) (hs : size + wd c > W) : chopGo W (l.drop i) line size = line :: chopGo W (l.drop (i + 1)) [c] (wd c) := by
  obtain ⟨hi, rfl⟩ := List.getElem?_eq_some_iff.mp hc
  rw [List.drop_eq_getElem_cons hi]
  show (if size + wd l[i] > W then _ else _) = _
  rw [if_pos hs]
theorem chopGo_go' {W : Int} {l line : List Nat} {i : Nat} {size : Int} {c : Nat} (hc : l[i]? = some c) (hs : ¬ size + wd c > W) : chopGo W (l.drop i) line size = chopGo W (l.drop (i + 1)) (line ++ [c]) (size + wd c) := by
  obtain ⟨hi, rfl⟩ := List.getElem?_eq_some_iff.mp hc
  rw [List.drop_eq_getElem_cons hi]
  show (if size + wd l[i] > W then _ else _) = _
  rw [if_neg hs]
theorem LJ.cut {x : Str} {W : Nat} {tW : Tok} {lp : Addr} {g₀ : Array GenState} {m : Str → Option Value} {i k c : Nat} {sz : Int} {zs : List Str} {vs : List Value} {ln : Str} {tz tl ts : Tok} (hc : x.cps.toList[i]? = some c) (hs : StrsAre vs zs)
    (hch : zs.map (fun z => z.cps.toList) ++ chopGo (W : Int) (x.cps.toList.drop i) ln.cps.toList sz = chop (W : Int) x.cps.toList) (hl : zs.length ≤ i) (hf : (W : Int) < sz + wd c)
    (e1 : m (Str.ofString "lines") = some (.ref lp)) (e2 : m (Str.ofString "line") = some (.str (Str.ofString "" ++ ⟨#[c]⟩) tl)) (e3 : m (Str.ofString "size") = some (.int (0 + wd c) ts)) (e4 : m (Str.ofString "width") = some (.int W tW)) :
    LJ x W tW lp g₀ (i + 1) m [(lp, PySem.W.listOf (vs.toArray.push (.str ln tz)) k)] g₀ := by
  have hw := wd_pos c
  have hw2 := wd_le c
  refine ⟨rfl, zs ++ [ln], vs ++ [.str ln tz], k, Str.ofString "" ++ ⟨#[c]⟩, wd c, tl, ts, ?_, strs_push hs, ?_, ?_, by omega, by omega, by simp; omega, e1, e2, ?_, e4⟩
  · rw [List.push_toArray]
  · rw [← hch, chopGo_cut' hc (by omega), List.map_append, List.append_assoc, List.map_singleton, str_snoc]
    rfl
  · rw [str_snoc_len]; show 0 + 1 ≤ i + 1; omega
  · rw [e3]; congr 2; omega
theorem LJ.go {x : Str} {W : Nat} {tW : Tok} {lp : Addr} {g₀ : Array GenState} {m : Str → Option Value} {i k c : Nat} {sz : Int} {zs : List Str} {vs : List Value} {ln : Str} {tl ts : Tok} (hc : x.cps.toList[i]? = some c) (hs : StrsAre vs zs)
    (hch : zs.map (fun z => z.cps.toList) ++ chopGo (W : Int) (x.cps.toList.drop i) ln.cps.toList sz = chop (W : Int) x.cps.toList) (hln : ln.length ≤ i) (h0 : 0 ≤ sz) (hsz : sz ≤ 2 * i) (hl : zs.length ≤ i) (hf : ¬ (W : Int) < sz + wd c)
    (e1 : m (Str.ofString "lines") = some (.ref lp)) (e2 : m (Str.ofString "line") = some (.str (ln ++ ⟨#[c]⟩) tl)) (e3 : m (Str.ofString "size") = some (.int (sz + wd c) ts)) (e4 : m (Str.ofString "width") = some (.int W tW)) :
    LJ x W tW lp g₀ (i + 1) m [(lp, PySem.W.listOf vs.toArray k)] g₀ := by
  have hw := wd_pos c
  have hw2 := wd_le c
  refine ⟨rfl, zs, vs, k, ln ++ ⟨#[c]⟩, sz + wd c, tl, ts, rfl, hs, ?_, ?_, by omega, by omega, by omega, e1, e2, e3, e4⟩
  · rw [← hch, chopGo_go' hc (by omega), str_snoc]
  · rw [str_snoc_len]; omega
theorem c_lchop (w : World) (mg mb) (x : Str) (t : Tok) (W : Nat) (tW : Tok) (dp : Nat) (fr : Option (List Env)) (gd : Option (List Code)) (un : Nat) (s : Shared) (Q E : Value → Shared → Prop)
    (hK : (hd.heap_39 w.params).In s.heap) (hT : TopRead hd.view_39 LP mg mb s.heap) (hdp : dp + 30 < 900) (hun : un + 600 < 9000) (hlen : x.length < 500) (hW : 2 ≤ W) (hW2 : W < 100)
    (hret : ∀ D vs n zs h' tk', Keep s.heap h' → h'.get? D = some (PySem.W.listOf vs.toArray n) → s.heap.get? D = none → StrsAre vs zs → zs.map (fun z => z.cps.toList) = chop (W : Int) x.cps.toList → Q (.ref D) { heap := h', gens := s.gens, drawn := s.drawn, toks := tk', os := s.os }) :
    wpAny (model PySem.Challenge.rw_ey0021_01.row.prog w) (AA dp fr gd un) (call (.ref 302) [.str x t, .int W tW]) Q E s := by
  revert hK; k_fill; intro hK
  refine wpAny_call ?_
  k_dflt cell_enter
  k_steps
  rename Fr _ _ _ _ => F9
  rename News _ _ _ _ => N9
  rename_i lp _ _ Dq _ _ _ _ _ _
  have hlp := (N9 _ (.tail _ (.head _)))
  refine' gtext (news := [(lp, PySem.W.listOf (#[] : Array Value) 0)]) (LJ x W tW lp s.gens) rfl rfl rfl F9 (fun p hp => N9 p (.tail _ hp)) ⟨rfl, [], [], 0, Str.ofString "", 0, _, _, rfl, .nil, rfl, Nat.zero_le _, by omega, by omega, Nat.le_refl _, rfl, rfl, rfl, rfl⟩ ?hE ?turn ?done
  case hE => passes_own
  case turn =>
    rintro i c u m₁ nx h tk g own hc hoff hnx how ⟨rfl, zs, vs, k, ln, sz, tl, ts, rfl, hs, hch, hln, h0, hsz, hzl, e1, e2, e3, e4⟩ F N
    clear F9 N9
    have hi : i < x.cps.size := (Array.getElem?_eq_some_iff.mp hc).1
    have hxl : x.length = x.cps.size := rfl
    have hvl : vs.length < 500 := by have := hs.len_eq; omega
    have hwd := wd_le c
    have hwd0 := wd_pos c
    have hci : x.cps.toList[i]? = some c := by rw [Array.getElem?_toList]; exact hc
    have F7 := (Fr.know (y := Str.ofString "width") (Fr.know (y := Str.ofString "size") (Fr.know (y := Str.ofString "line") (Fr.know (y := Str.ofString "lines") F (show _ = _ from e1)) e2) e3) e4)
    have N6 : News s.heap _ h ((lp, PySem.W.listOf vs.toArray k) :: own) := N
    clear F N
    k_steps
    · rename Fr _ _ _ _ => F9
      rename News _ _ _ _ => N9
      exact GPost.fin [(lp, _)] F9 (fun p hp => N9 p (.tail _ (.tail _ hp))) (fun p hp => by rw [List.mem_singleton.mp hp]; exact fun hq => hnx (lp, PySem.W.listOf vs.toArray k) (.head _) (List.mem_singleton.mp hq)) (LJ.cut hci hs hch hzl (by assumption) rfl rfl rfl rfl)
    · rename Fr _ _ _ _ => F9
      rename News _ _ _ _ => N9
      exact GPost.fin [(lp, _)] F9 (fun p hp => N9 p (.tail _ hp)) (fun p hp => by rw [List.mem_singleton.mp hp]; exact fun hq => hnx (lp, PySem.W.listOf vs.toArray k) (.head _) (List.mem_singleton.mp hq)) (LJ.go hci hs hch hln h0 hsz hzl (by assumption) rfl rfl rfl rfl)
  case done =>
    rintro m₁ nx h tk g ⟨rfl, zs, vs, k, ln, sz, tl, ts, rfl, hs, hch, hln, h0, hsz, hzl, e1, e2, e3, e4⟩ F N
    clear F9 N9
    have F7 := (Fr.know (y := Str.ofString "width") (Fr.know (y := Str.ofString "size") (Fr.know (y := Str.ofString "line") (Fr.know (y := Str.ofString "lines") F (show _ = _ from e1)) e2) e3) e4)
    have N6 : News s.heap _ h [(lp, PySem.W.listOf vs.toArray k)] := N
    clear F N
    have hxl : x.length = x.cps.size := rfl
    have hvl : vs.length < 500 := by have := hs.len_eq; omega
    rw [List.drop_of_length_le (by simp)] at hch
    have hs2 : StrsAre vs zs ∧ 0 = 0 := ⟨hs, rfl⟩
    k_steps
    · rename Fr _ _ _ _ => F9
      rename News _ _ _ _ => N9
      have hN := N9 _ (.head _)
      refine hret _ (vs ++ [.str ln tl]) _ (zs ++ [ln]) _ _ F9.keep hN.1 hN.2.2 (strs_push hs2.1) ?_
      rw [← hch, List.map_append, List.map_singleton]
      unfold chopGo
      rw [if_pos (by assumption)]
    · rename Fr _ _ _ _ => F9
      rename News _ _ _ _ => N9
      dsimp only
      have hN := N9 _ (.head _)
      refine hret lp vs k zs _ _ F9.keep hN.1 hN.2.2 hs2.1 ?_
      rw [← hch]
      unfold chopGo
      rw [if_neg (by assumption), List.append_nil]

end Mine
end
section
open PySem PySem.W PySem.W.X PySem.Calls PyProof.Rows
namespace Mine
local macro_rules | `(tactic| k_room) => `(tactic| ((try simp only [depth_under_make, depth_under_kw, depth_in1, depth_deeper, depth_caller]); (simp only [recursionLimit] at *); omega))
local macro_rules | `(tactic| cell_enter) => `(tactic| first
  | (refine' pEnter [] ?k1 ?k2 ?k6 ?k7 ?k8 ?k9 ?kB ?_ ?c2 ?c3 ?c4 ?c5; (case k1 => k_asm); (case k2 => exact TopRead.nolimit (by assumption)); (case k6 => k_is); (case k7 => k_is); (case k8 => k_room); (case k9 => first | exact BindsTo.of_eq rfl | exact binds_K (by k_in) rfl (by k_is) rfl rfl rfl | fail "no rule for these arguments"); (case c5 => decide); (case kB => exact locs rfl); (case c2 => exact rfl); (case c3 => exact rfl); (case c4 => exact rfl); k_whole; intro h₁ L₁ hL₁ F₁ K₁; (rw [hideNil] at F₁); (have N₁ := newsNil F₁); (try dsimp only); (try k_fold))
  | (refine' pEnterC [] ?k1 ?k2 ?k6 ?k7 ?k8 ?k9 ?kB ?kD ?_ ?c2 ?c3 ?c4; (case k1 => k_asm); (case k2 => exact TopRead.nolimit (by assumption)); (case k6 => k_is); (case k7 => k_is); (case k8 => k_room); (case k9 => first | exact BindsTo.of_eq rfl | exact binds_K (by k_in) rfl (by k_is) rfl rfl rfl | fail "no rule for these arguments"); (case kB => exact rfl); (case kD => decide +kernel); (case c2 => exact rfl); (case c3 => exact rfl); (case c4 => exact rfl); k_whole; intro h₁ L₁ tk₁ cells₁ hL₁ F₁ N₁ Y₁ K₁ C₁; (rw [hideNil] at F₁ N₁); k_cells Y₁; (try simp only [List.cons_append, List.nil_append] at N₁); (try dsimp only); (try k_fold)))

local macro_rules | `(tactic| walk_at "exec While") => `(tactic| (k_here; (with_reducible show wpAny _ _ (exec (Stmt.While _ _ [] _) _) _ _ _); (refine' While_G ?_)))
local macro_rules | `(tactic| walk_at "call builtin:list.append") => `(tactic| (k_here; (with_reducible show wpAny _ _ (call (Value.builtin _) [Value.ref _, _]) _ _ _); k_dflt (refine' append_K ?k1 ?k2 ?k3 ?_ ?z; (case k1 => k_asm); (case k2 => k_asm); (case k3 => k_upd); (case z => ((try simp only [List.size_toArray, List.length_map]); (have e9 : (1000 : Nat) ≤ sizeLine := by decide); omega)); k_whole); intro h' F' N'; (try k_sweep)))
section
variable {prog : Program} {w : World} {A : Around} {E : Value → Shared → Prop} {Q : Flow → Shared → Prop} {s : Shared} {env : Env} {h₀ : Heap} {test : Expr} {body : List Stmt}
structure WEx (h₀ : Heap) (L : Addr) (D : (Str → Option Value) → List (Addr × Obj) → Array GenState → Prop) (d : Drawn) (os : OsState) (s' : Shared) : Prop where
  ex : ∃ h' tk' g' m' nx', s' = { heap := h', gens := g', drawn := d, toks := tk', os := os } ∧ Fr h₀ L h' m' ∧ News h₀ L h' nx' ∧ D m' nx' g'
theorem WEx.mk' {L : Addr} {D : (Str → Option Value) → List (Addr × Obj) → Array GenState → Prop} {d : Drawn} {os : OsState} {h' : Heap} {m' : Str → Option Value} {g' : Array GenState} {tk : Nat} {nx' : List (Addr × Obj)} (F : Fr h₀ L h' m') (N : News h₀ L h' nx') (h : D m' nx' g') :
    WEx h₀ L D d os { heap := h', gens := g', drawn := d, toks := tk, os := os } := ⟨⟨_, _, _, _, _, rfl, F, N, h⟩⟩
/-- a while loop without break, its rest walked once -/
theorem wloop2 {m : Str → Option Value} {news : List (Addr × Obj)} (J : Nat → (Str → Option Value) → List (Addr × Obj) → Array GenState → Prop) (D : (Str → Option Value) → List (Addr × Obj) → Array GenState → Prop) (n₀ : Nat)
    (F : Fr h₀ env.locals s.heap m) (N : News h₀ env.locals s.heap news) (hJ : J n₀ m news s.gens) (hE : PassesOwn (model prog w) A env E)
    (turn : ∀ n m₁ nx h tk g, J n m₁ nx g → Fr h₀ env.locals h m₁ → News h₀ env.locals h nx → wpAny (model prog w) A (isTrue test env (eval test env)) (fun b s₂ =>
        if b = true then wpAny (model prog w) A (execs body env) (WPost h₀ env.locals (fun m' nx' g' => ∃ k, k < n ∧ J k m' nx' g') s.drawn s.os fun _ _ => False) E s₂ else WEx h₀ env.locals D s.drawn s.os s₂) E { heap := h, gens := g, drawn := s.drawn, toks := tk, os := s.os })
    (done : ∀ m₁ nx h tk g, D m₁ nx g → Fr h₀ env.locals h m₁ → News h₀ env.locals h nx → Q .next { heap := h, gens := g, drawn := s.drawn, toks := tk, os := s.os }) :
    WLoop prog w A env test body Q E s := by
  refine wloop J n₀ F N hJ hE fun n m₁ nx h tk g hj F₁ N₁ => wpAny_mono (turn n m₁ nx h tk g hj F₁ N₁) (fun b s₂ h₂ => ?_) fun _ _ e => e
  cases b with
  | false =>
    simp only [Bool.false_eq_true, if_false] at h₂ ⊢
    obtain ⟨h', tk', g', m', nx', rfl, F', N', hd⟩ := h₂.ex
    exact done m' nx' h' tk' g' hd F' N'
  | true =>
    simp only [if_true] at h₂ ⊢
    refine wpAny_mono h₂ (fun f s₃ h₃ => ?_) fun _ _ e => e
    cases f with
    | next => exact h₃
    | cont => exact h₃
    | brk => exact h₃.elim
    | ret v => exact h₃.elim
end
theorem slice_ex {x : Str} {a b : Nat} (h1 : a ≤ b) (h2 : b ≤ x.cps.size) : Txt.slice x (some (a : Int)) (some (b : Int)) = ⟨x.cps.extract a b⟩ := by
  have e := slice_at (x := x) (i := a) (j := b) (by omega) h1
  have e2 : (Txt.slice x (some (a : Int)) (some (b : Int))).cps = x.cps.extract a b := by
    rw [← Array.toList_inj, e, Array.toList_extract]
  rw [← e2]
theorem sp_str {c : Nat} (h : c = 32) : (⟨#[c]⟩ : Str) = Str.ofString " " := by subst h; rfl
theorem sp_str_ne {c : Nat} (h : c ≠ 32) : (⟨#[c]⟩ : Str) ≠ Str.ofString " " := by
  have e : Str.ofString " " = ⟨#[32]⟩ := by rfl
  rw [e]; exact one_ne h
/-- an inner loop: from p the signs that q takes -/
def IJ (q : Nat → Bool) (x : Str) (t : Tok) (b p : Nat) (tb : Tok) (fp : Addr) (g₀ : Array GenState) (nx₀ : List (Addr × Obj)) (n : Nat) (m : Str → Option Value) (nx : List (Addr × Obj)) (g : Array GenState) : Prop :=
  g = g₀ ∧ nx = nx₀ ∧ ∃ (i : Nat) (ti : Tok), n = x.cps.size - i ∧ i ≤ x.cps.size ∧ i + cnt q x.cps i = p + cnt q x.cps p ∧ m (Str.ofString "line") = some (.str x t) ∧ m (Str.ofString "begin") = some (.int b tb) ∧ m (Str.ofString "found") = some (.ref fp) ∧ m (Str.ofString "place") = some (.int i ti)
def ID (q : Nat → Bool) (x : Str) (t : Tok) (b p : Nat) (tb : Tok) (fp : Addr) (g₀ : Array GenState) (nx₀ : List (Addr × Obj)) (m : Str → Option Value) (nx : List (Addr × Obj)) (g : Array GenState) : Prop :=
  g = g₀ ∧ nx = nx₀ ∧ ∃ ti, m (Str.ofString "line") = some (.str x t) ∧ m (Str.ofString "begin") = some (.int b tb) ∧ m (Str.ofString "found") = some (.ref fp) ∧ m (Str.ofString "place") = some (.int ((p + cnt q x.cps p : Nat) : Int) ti)
/-- the words found so far -/
def TupsIn (x : Str) (pre : List (Nat × Nat)) (ds : List Addr) (sn : List (Addr × Obj)) : Prop :=
  ds.length = pre.length ∧ ∀ (j : Nat) (d : Addr), ds[j]? = some d → ∃ a b ta tb tx, pre[j]? = some (a, b) ∧ (d, tupObj a b ta tb x tx) ∈ sn
def WJ (x : Str) (t : Tok) (W : List (Nat × Nat)) (fp : Addr) (g₀ : Array GenState) (n : Nat) (m : Str → Option Value) (nx : List (Addr × Obj)) (g : Array GenState) : Prop :=
  g = g₀ ∧ ∃ (p : Nat) (pre l : List (Nat × Nat)) (ds : List Addr) (sn : List (Addr × Obj)) (k : Nat) (tb tp : Tok), n = x.cps.size - p ∧ p ≤ x.cps.size ∧ W = pre ++ l ∧ WordsAt x.cps p l ∧ nx = (fp, PySem.W.listOf (ds.map Value.ref).toArray k) :: sn ∧ OwnOff sn [fp] ∧ TupsIn x pre ds sn ∧ pre.length ≤ p ∧
    m (Str.ofString "line") = some (.str x t) ∧ m (Str.ofString "begin") = some (.int p tb) ∧ m (Str.ofString "found") = some (.ref fp) ∧ m (Str.ofString "place") = some (.int p tp)
/-- the words as they lie in a heap -/
def WordsHere (x : Str) (W : List (Nat × Nat)) (h₀ h : Heap) (D : Addr) (ds : List Addr) (k : Nat) : Prop :=
  h.get? D = some (PySem.W.listOf (ds.map Value.ref).toArray k) ∧ h₀.get? D = none ∧ ds.length = W.length ∧ ∀ (j : Nat) (d : Addr), ds[j]? = some d → (∃ a b ta tb tx, W[j]? = some (a, b) ∧ h.get? d = some (tupObj a b ta tb x tx)) ∧ h₀.get? d = none ∧ d ≠ D
theorem word_cons {t : Array Nat} {p : Nat} {l : List (Nat × Nat)} (hw : WordsAt t p l) (h1 : p < t.size) (h2 : 1 ≤ cnt nsp t (p + cnt isp t p)) : ∃ l', l = (p, wend t p) :: l' ∧ WordsAt t (wend t p) l' := by
  cases hw with
  | nil h => omega
  | cons a b c => exact ⟨_, rfl, c⟩
theorem word_nil {t : Array Nat} {p : Nat} {l : List (Nat × Nat)} (hw : WordsAt t p l) (h : t.size ≤ p + cnt isp t p) : l = [] := by
  cases hw with
  | nil _ => rfl
  | cons a b c => rw [cnt_end nsp h] at b; omega
theorem cnt_stop {q : Nat → Bool} {t : Array Nat} {p : Nat} (h : p + cnt q t p < t.size) : q (t.getD (p + cnt q t p) 0) = false := by
  have h1 : cnt q t (p + cnt q t p) = 0 := by
    have : ∀ (n p : Nat), cnt q t p = n → cnt q t (p + n) = 0 := by
      intro n
      induction n with
      | zero => intro p h; exact h
      | succ n ih =>
        intro p h
        rcases Nat.lt_or_ge p t.size with hp | hp
        · rw [cnt_step q hp] at h
          cases hq : q (t.getD p 0) with
          | true =>
            rw [hq, if_pos rfl] at h
            have := ih (p + 1) (by omega)
            rw [show p + (n + 1) = p + 1 + n by omega]; exact this
          | false => rw [hq] at h; simp at h
        · rw [cnt_end q hp] at h; omega
    exact this _ p rfl
  rw [cnt_step q h] at h1
  cases hq : q (t.getD (p + cnt q t p) 0) with
  | false => rfl
  | true => rw [hq, if_pos rfl] at h1; omega
theorem WJ.step {x : Str} {t : Tok} {W pre l : List (Nat × Nat)} {fp : Addr} {g₀ : Array GenState} {p k : Nat} {ds : List Addr} {sn : List (Addr × Obj)} {m' : Str → Option Value} {D : Addr} {ta tb tx ti tj : Tok}
    (hW : W = pre ++ (p, wend x.cps p) :: l) (hw : WordsAt x.cps (wend x.cps p) l) (hp : p < wend x.cps p) (hle : wend x.cps p ≤ x.cps.size) (hpl : pre.length ≤ p) (htu : TupsIn x pre ds sn) (hoff : OwnOff sn [fp]) (h1 : @LT.lt Nat _ fp D)
    (e1 : m' (Str.ofString "line") = some (.str x t)) (e2 : m' (Str.ofString "begin") = some (.int (wend x.cps p : Nat) ti)) (e3 : m' (Str.ofString "found") = some (.ref fp)) (e4 : m' (Str.ofString "place") = some (.int (wend x.cps p : Nat) tj)) :
    WJ x t W fp g₀ (x.cps.size - wend x.cps p) m' ((fp, PySem.W.listOf ((ds.map Value.ref).toArray.push (.ref D)) (k + 1)) :: (D, { cls := .type "tuple", data := .seq #[.int (p : Int) ta, .int (wend x.cps p : Nat) tb, .str (Txt.slice x (some (p : Int)) (some ((wend x.cps p : Nat) : Int))) tx] }) :: sn) g₀ := by
  obtain ⟨hds, htu⟩ := htu
  refine ⟨rfl, wend x.cps p, pre ++ [(p, wend x.cps p)], l, ds ++ [D], (D, { cls := .type "tuple", data := .seq #[.int (p : Int) ta, .int (wend x.cps p : Nat) tb, .str (Txt.slice x (some (p : Int)) (some ((wend x.cps p : Nat) : Int))) tx] }) :: sn, k + 1, ti, tj, rfl, hle, by rw [hW]; simp, hw, ?_, ?_, ⟨by simp [hds], fun j d hj => ?_⟩, by simp; omega, e1, e2, e3, e4⟩
  · rw [show ((ds ++ [D]).map Value.ref).toArray = (ds.map Value.ref).toArray.push (.ref D) by simp]
  · intro q hq b hb
    rw [List.mem_singleton.mp hb]
    rcases List.mem_cons.mp hq with rfl | hq
    · exact Nat.ne_of_gt h1
    · exact hoff q hq fp (.head _)
  · rcases Nat.lt_or_ge j ds.length with hj1 | hj1
    · rw [List.getElem?_append_left hj1] at hj
      obtain ⟨a, b, ta', tb', tx', h2, hm⟩ := htu j d hj
      exact ⟨a, b, ta', tb', tx', by rw [List.getElem?_append_left (by omega)]; exact h2, .tail _ hm⟩
    · rw [List.getElem?_append_right hj1] at hj
      have hj0 : j - ds.length = 0 := by
        rcases Nat.eq_zero_or_pos (j - ds.length) with h | h
        · exact h
        · rw [List.getElem?_eq_none (by simp; omega)] at hj; cases hj
      rw [hj0] at hj
      cases hj
      refine ⟨p, wend x.cps p, ta, tb, tx, ?_, ?_⟩
      · rw [List.getElem?_append_right (by omega), show j - pre.length = 0 by omega]; rfl
      · rw [slice_ex (Nat.le_of_lt hp) hle]; exact .head _
theorem c_lwords (w : World) (mg mb) (x : Str) (t : Tok) (W : List (Nat × Nat)) (hw : WordsAt x.cps 0 W) (dp : Nat) (fr : Option (List Env)) (gd : Option (List Code)) (un : Nat) (s : Shared) (Q E : Value → Shared → Prop)
    (hK : (hd.heap_39 w.params).In s.heap) (hT : TopRead hd.view_39 LP mg mb s.heap) (hdp : dp + 30 < 900) (hun : un + 600 < 9000) (hlen : x.length < 500)
    (hret : ∀ D ds k h' tk', Keep s.heap h' → WordsHere x W s.heap h' D ds k → Q (.ref D) { heap := h', gens := s.gens, drawn := s.drawn, toks := tk', os := s.os }) :
    wpAny (model PySem.Challenge.rw_ey0021_01.row.prog w) (AA dp fr gd un) (call (.ref 295) [.str x t]) Q E s := by
  revert hK; k_fill; intro hK
  refine wpAny_call ?_
  k_dflt cell_enter
  k_steps
  rename Fr _ _ _ _ => F9
  rename News _ _ _ _ => N9
  rename_i fp _ _ Dq _ _ _ _ _ _
  refine wloop (WJ x t W fp s.gens) x.cps.size F9 (fun p hp => N9 p (.tail _ hp)) ⟨rfl, 0, [], W, [], [], 0, _, _, rfl, Nat.zero_le _, rfl, hw, rfl, (fun _ h => nomatch h), ⟨rfl, fun j d h => by simp at h⟩, Nat.le_refl _, rfl, rfl, rfl, rfl⟩ (by passes_own) ?turn
  case turn =>
    rintro n m nx h tk g ⟨rfl, p, pre, l, ds, sn, k, tb, tp, hn, hp, hWl, hwl, rfl, hoff, htu, hpl, e1, e2, e3, e4⟩ F N
    have F8 := (Fr.know (y := Str.ofString "place") (Fr.know (y := Str.ofString "found") (Fr.know (y := Str.ofString "begin") (Fr.know (y := Str.ofString "line") F e1) e2) e3) e4)
    clear F9 N9 F
    by_cases hlt0 : p < x.cps.size
    · have hltx0 : (p : Int) < (x.length : Int) := by show (p : Int) < (x.cps.size : Int); omega
      k_steps
      rename Fr _ _ _ _ => F9
      rename News _ _ _ _ => N9
      refine wloop2 (IJ isp x t p (p) tb fp s.gens ((fp, PySem.W.listOf (ds.map Value.ref).toArray k) :: sn)) (ID isp x t p (p) tb fp s.gens ((fp, PySem.W.listOf (ds.map Value.ref).toArray k) :: sn)) (x.cps.size - (p)) F9 N9 ⟨rfl, rfl, (p), _, rfl, by omega, rfl, rfl, rfl, rfl, rfl⟩ (by passes_own) ?turn1 ?done1
      case turn1 =>
        rintro n1 m1 nx1 h1 tk1 g1 ⟨rfl, rfl, i, ti, hn1, hi, hcnt, e5, e6, e7, e8⟩ F5 N5
        have F8 := (Fr.know (y := Str.ofString "place") (Fr.know (y := Str.ofString "found") (Fr.know (y := Str.ofString "begin") (Fr.know (y := Str.ofString "line") F5 e5) e6) e7) e8)
        clear F9 N9 F5
        by_cases hlt : i < x.cps.size
        · have hltx : (i : Int) < (x.length : Int) := by show (i : Int) < (x.cps.size : Int); omega
          have ei : Txt.item x (i : Int) = ⟨#[x.cps.getD i 0]⟩ := item_at hlt
          have hst := cnt_step isp hlt
          by_cases hsp : x.cps.getD i 0 = 32
          · have es : (Txt.item x (i : Int) == Str.ofString " ") = true := beq_iff_eq.mpr (ei.trans (sp_str hsp))
            k_steps
            skip
            rename Fr _ _ _ _ => F9
            rename News _ _ _ _ => N9
            have hq : isp (x.cps.getD i 0) = true := by rw [hsp]; rfl
            rw [hq, if_pos rfl] at hst
            exact WPost.fin F9 N9 ⟨x.cps.size - (i + 1), by omega, rfl, rfl, i + 1, _, rfl, by omega, by omega, rfl, rfl, rfl, rfl⟩
          · have es : (Txt.item x (i : Int) == Str.ofString " ") = false := beq_eq_false_iff_ne.mpr (ei ▸ sp_str_ne hsp)
            k_steps
            rename Fr _ _ _ _ => F9
            rename News _ _ _ _ => N9
            have hq : isp (x.cps.getD i 0) = false := by exact beq_eq_false_iff_ne.mpr hsp
            rw [hq, if_neg (by decide)] at hst
            have hie : i = (p) + cnt isp x.cps (p) := by omega
            subst hie
            exact WEx.mk' F9 N9 ⟨rfl, rfl, _, rfl, rfl, rfl, rfl⟩
        · have hgex : ¬ ((i : Int) < (x.length : Int)) := by show ¬ ((i : Int) < (x.cps.size : Int)); omega
          k_steps
          rename Fr _ _ _ _ => F9
          rename News _ _ _ _ => N9
          have hst := cnt_end isp (t := x.cps) (p := i) (by omega)
          have hie : i = (p) + cnt isp x.cps (p) := by omega
          subst hie
          exact WEx.mk' F9 N9 ⟨rfl, rfl, _, rfl, rfl, rfl, rfl⟩
      
      case done1 =>
        rintro m1 nx1 h1 tk1 g1 ⟨rfl, rfl, ti1, e5, e6, e7, e8⟩ F5 N5
        have F8 := (Fr.know (y := Str.ofString "place") (Fr.know (y := Str.ofString "found") (Fr.know (y := Str.ofString "begin") (Fr.know (y := Str.ofString "line") F5 e5) e6) e7) e8)
        clear F9 N9 F5 e5 e6 e7 e8
        by_cases hj : p + cnt isp x.cps p < x.cps.size
        · have hne : ¬ (((p + cnt isp x.cps p : Nat) : Int) = (x.length : Int)) := by show ¬ (_ = (x.cps.size : Int)); omega
          have hnb := cnt_stop hj
          have hc2 : 1 ≤ cnt nsp x.cps (p + cnt isp x.cps p) := by
            have : nsp (x.cps.getD (p + cnt isp x.cps p) 0) = true := by
              show (!(isp (x.cps.getD (p + cnt isp x.cps p) 0))) = true
              rw [hnb]; rfl
            rw [cnt_step nsp hj, this, if_pos rfl]; omega
          obtain ⟨l', rfl, hwl'⟩ := word_cons hwl hlt0 hc2
          have hle := wend_le hp
          k_steps
          (exact absurd (by assumption) hne)
          rename Fr _ _ _ _ => F9
          rename News _ _ _ _ => N9
          refine wloop2 (IJ nsp x t p (p + cnt isp x.cps p) tb fp s.gens ((fp, PySem.W.listOf (ds.map Value.ref).toArray k) :: sn)) (ID nsp x t p (p + cnt isp x.cps p) tb fp s.gens ((fp, PySem.W.listOf (ds.map Value.ref).toArray k) :: sn)) (x.cps.size - (p + cnt isp x.cps p)) F9 N9 ⟨rfl, rfl, (p + cnt isp x.cps p), _, rfl, by omega, rfl, rfl, rfl, rfl, rfl⟩ (by passes_own) ?turn2 ?done2
          case turn2 =>
            rintro n1 m1 nx1 h1 tk1 g1 ⟨rfl, rfl, i, ti, hn1, hi, hcnt, e5, e6, e7, e8⟩ F5 N5
            have F8 := (Fr.know (y := Str.ofString "place") (Fr.know (y := Str.ofString "found") (Fr.know (y := Str.ofString "begin") (Fr.know (y := Str.ofString "line") F5 e5) e6) e7) e8)
            clear F9 N9 F5
            by_cases hlt : i < x.cps.size
            · have hltx : (i : Int) < (x.length : Int) := by show (i : Int) < (x.cps.size : Int); omega
              have ei : Txt.item x (i : Int) = ⟨#[x.cps.getD i 0]⟩ := item_at hlt
              have hst := cnt_step nsp hlt
              by_cases hsp : x.cps.getD i 0 = 32
              · have es : (Txt.item x (i : Int) != Str.ofString " ") = false := bne_eq_false_iff_eq.mpr (ei.trans (sp_str hsp))
                k_steps
                skip
                rename Fr _ _ _ _ => F9
                rename News _ _ _ _ => N9
                have hq : nsp (x.cps.getD i 0) = false := by rw [hsp]; rfl
                rw [hq, if_neg (by decide)] at hst
                have hie : i = (p + cnt isp x.cps p) + cnt nsp x.cps (p + cnt isp x.cps p) := by omega
                subst hie
                exact WEx.mk' F9 N9 ⟨rfl, rfl, _, rfl, rfl, rfl, rfl⟩
              · have es : (Txt.item x (i : Int) != Str.ofString " ") = true := bne_iff_ne.mpr (ei ▸ sp_str_ne hsp)
                k_steps
                rename Fr _ _ _ _ => F9
                rename News _ _ _ _ => N9
                have hq : nsp (x.cps.getD i 0) = true := by show (!(x.cps.getD i 0 == 32)) = true; rw [beq_eq_false_iff_ne.mpr hsp]; rfl
                rw [hq, if_pos rfl] at hst
                exact WPost.fin F9 N9 ⟨x.cps.size - (i + 1), by omega, rfl, rfl, i + 1, _, rfl, by omega, by omega, rfl, rfl, rfl, rfl⟩
            · have hgex : ¬ ((i : Int) < (x.length : Int)) := by show ¬ ((i : Int) < (x.cps.size : Int)); omega
              k_steps
              rename Fr _ _ _ _ => F9
              rename News _ _ _ _ => N9
              have hst := cnt_end nsp (t := x.cps) (p := i) (by omega)
              have hie : i = (p + cnt isp x.cps p) + cnt nsp x.cps (p + cnt isp x.cps p) := by omega
              subst hie
              exact WEx.mk' F9 N9 ⟨rfl, rfl, _, rfl, rfl, rfl, rfl⟩
          
          case done2 =>
            rintro m2 nx2 h2 tk2 g2 ⟨rfl, rfl, ti2, e5, e6, e7, e8⟩ F5 N5
            have F8 := (Fr.know (y := Str.ofString "place") (Fr.know (y := Str.ofString "found") (Fr.know (y := Str.ofString "begin") (Fr.know (y := Str.ofString "line") F5 e5) e6) e7) e8)
            clear F9 N9 F5 e5 e6 e7 e8
            have hj2 : p + cnt isp x.cps p + cnt nsp x.cps (p + cnt isp x.cps p) ≤ x.cps.size := by unfold wend at hle; omega
            k_steps
            rename Fr _ _ _ _ => F9
            rename News _ _ _ _ => N9
            refine wloop2 (IJ isp x t p (p + cnt isp x.cps p + cnt nsp x.cps (p + cnt isp x.cps p)) tb fp s.gens ((fp, PySem.W.listOf (ds.map Value.ref).toArray k) :: sn)) (ID isp x t p (p + cnt isp x.cps p + cnt nsp x.cps (p + cnt isp x.cps p)) tb fp s.gens ((fp, PySem.W.listOf (ds.map Value.ref).toArray k) :: sn)) (x.cps.size - (p + cnt isp x.cps p + cnt nsp x.cps (p + cnt isp x.cps p))) F9 N9 ⟨rfl, rfl, (p + cnt isp x.cps p + cnt nsp x.cps (p + cnt isp x.cps p)), _, rfl, by omega, rfl, rfl, rfl, rfl, rfl⟩ (by passes_own) ?turn3 ?done3
            case turn3 =>
              rintro n1 m1 nx1 h1 tk1 g1 ⟨rfl, rfl, i, ti, hn1, hi, hcnt, e5, e6, e7, e8⟩ F5 N5
              have F8 := (Fr.know (y := Str.ofString "place") (Fr.know (y := Str.ofString "found") (Fr.know (y := Str.ofString "begin") (Fr.know (y := Str.ofString "line") F5 e5) e6) e7) e8)
              clear F9 N9 F5
              by_cases hlt : i < x.cps.size
              · have hltx : (i : Int) < (x.length : Int) := by show (i : Int) < (x.cps.size : Int); omega
                have ei : Txt.item x (i : Int) = ⟨#[x.cps.getD i 0]⟩ := item_at hlt
                have hst := cnt_step isp hlt
                by_cases hsp : x.cps.getD i 0 = 32
                · have es : (Txt.item x (i : Int) == Str.ofString " ") = true := beq_iff_eq.mpr (ei.trans (sp_str hsp))
                  k_steps
                  skip
                  rename Fr _ _ _ _ => F9
                  rename News _ _ _ _ => N9
                  have hq : isp (x.cps.getD i 0) = true := by rw [hsp]; rfl
                  rw [hq, if_pos rfl] at hst
                  exact WPost.fin F9 N9 ⟨x.cps.size - (i + 1), by omega, rfl, rfl, i + 1, _, rfl, by omega, by omega, rfl, rfl, rfl, rfl⟩
                · have es : (Txt.item x (i : Int) == Str.ofString " ") = false := beq_eq_false_iff_ne.mpr (ei ▸ sp_str_ne hsp)
                  k_steps
                  rename Fr _ _ _ _ => F9
                  rename News _ _ _ _ => N9
                  have hq : isp (x.cps.getD i 0) = false := by exact beq_eq_false_iff_ne.mpr hsp
                  rw [hq, if_neg (by decide)] at hst
                  have hie : i = (p + cnt isp x.cps p + cnt nsp x.cps (p + cnt isp x.cps p)) + cnt isp x.cps (p + cnt isp x.cps p + cnt nsp x.cps (p + cnt isp x.cps p)) := by omega
                  subst hie
                  exact WEx.mk' F9 N9 ⟨rfl, rfl, _, rfl, rfl, rfl, rfl⟩
              · have hgex : ¬ ((i : Int) < (x.length : Int)) := by show ¬ ((i : Int) < (x.cps.size : Int)); omega
                k_steps
                rename Fr _ _ _ _ => F9
                rename News _ _ _ _ => N9
                have hst := cnt_end isp (t := x.cps) (p := i) (by omega)
                have hie : i = (p + cnt isp x.cps p + cnt nsp x.cps (p + cnt isp x.cps p)) + cnt isp x.cps (p + cnt isp x.cps p + cnt nsp x.cps (p + cnt isp x.cps p)) := by omega
                subst hie
                exact WEx.mk' F9 N9 ⟨rfl, rfl, _, rfl, rfl, rfl, rfl⟩
            
            case done3 =>
              rintro m3 nx3 h3 tk3 g3 ⟨rfl, rfl, ti3, e5, e6, e7, e8'⟩ F5 N5
              have e8 : m3 (Str.ofString "place") = some (.int ((wend x.cps p : Nat) : Int) ti3) := e8'
              have hdl : ds.length < 500 := by have := htu.1; have : x.cps.size < 500 := hlen; omega
              clear e8'
              have F8 := (Fr.know (y := Str.ofString "place") (Fr.know (y := Str.ofString "found") (Fr.know (y := Str.ofString "begin") (Fr.know (y := Str.ofString "line") F5 e5) e6) e7) e8)
              clear F9 N9 F5 e5 e6 e7 e8
              k_steps
              rename Fr _ _ _ _ => F9
              rename News _ _ _ _ => N9
              rename _ ∧ AllLt _ _ => l9
              have hpw : p < wend x.cps p := by unfold wend; omega
              exact WPost.fin F9 (News.swap N9) ⟨x.cps.size - wend x.cps p, by omega, WJ.step hWl hwl' hpw hle hpl htu hoff l9.1 rfl rfl rfl rfl⟩
        · have hne : ((p + cnt isp x.cps p : Nat) : Int) = (x.length : Int) := by
            have := cnt_le isp x.cps p
            show _ = (x.cps.size : Int); omega
          have hnil : l = [] := word_nil hwl (by omega)
          subst hnil
          k_steps
          · refine WPost.brk ?_
            k_steps
            dsimp only
            rename Fr _ _ _ _ => F9
            rename News _ _ _ _ => N9
            rw [List.append_nil] at hWl
            subst hWl
            refine hret _ ds k _ _ F9.keep ⟨(N9 _ (.head _)).1, (N9 _ (.head _)).2.2, htu.1, fun j d hj => ?_⟩
            obtain ⟨a, b, ta, tb', tx, h7, h8⟩ := htu.2 j d hj
            exact ⟨⟨a, b, ta, tb', tx, h7, (N9 _ (.tail _ h8)).1⟩, (N9 _ (.tail _ h8)).2.2, hoff _ h8 _ (.head _)⟩
          · exact absurd hne (by assumption)
    · have hgex : ¬ ((p : Int) < (x.length : Int)) := by show ¬ ((p : Int) < (x.cps.size : Int)); omega
      have hnil : l = [] := word_nil hwl (by omega)
      subst hnil
      k_steps
      dsimp only
      rename Fr _ _ _ _ => F9
      rename News _ _ _ _ => N9
      rw [List.append_nil] at hWl
      subst hWl
      refine hret _ ds k _ _ F9.keep ⟨(N9 _ (.head _)).1, (N9 _ (.head _)).2.2, htu.1, fun j d hj => ?_⟩
      obtain ⟨a, b, ta, tb', tx, h7, h8⟩ := htu.2 j d hj
      exact ⟨⟨a, b, ta, tb', tx, h7, (N9 _ (.tail _ h8)).1⟩, (N9 _ (.tail _ h8)).2.2, hoff _ h8 _ (.head _)⟩

end Mine
end
section
open PySem PySem.W PySem.W.X PySem.Calls PyProof.Rows
namespace Mine
section
variable {prog : Program} {w : World} {A : Around} {E : Value → Shared → Prop} {Q : Flow → Shared → Prop} {s : Shared} {env : Env} {h₀ : Heap} {target : Expr} {body orelse : List Stmt}
theorem gloop2 {I : Addr} {fp wr : List Addr} {n : Nat} {P : Nat → Value → Prop} {St : Nat → Heap → Prop} {m₀ : Str → Option Value} {news : List (Addr × Obj)} (J : Nat → (Str → Option Value) → List (Addr × Obj) → Array GenState → Prop)
    (W : Walks prog w A I fp wr n P St) (hLf : env.locals ∉ fp) (hob : ∀ i h, St i h → ∀ b ∈ fp, ∃ o, h.get? b = some o) (hf0 : ∀ b ∈ fp, h₀.get? b = none) (hwr : ∀ b ∈ wr, h₀.get? b = none) (hst : St 0 s.heap) (F : Fr h₀ env.locals s.heap m₀) (N : News h₀ env.locals s.heap news) (hfp : ∀ p ∈ news, p.1 ∉ fp) (hj : J 0 m₀ news s.gens)
    (hgo : ∀ i (s' : Shared) v (Q' : Unit → Shared → Prop), St i s'.heap → Q' () s' → wpAny (model prog w) A (letOwnedTupleGo target (.ref I) v) Q' E s')
    (hE : PassesOwn (model prog w) A env E)
    (turn : ∀ i v m₁ nx h tk g own, i < n → P i v → OwnOff own (nx.map (·.1)) → (∀ p ∈ nx, p.1 ∉ fp) → (∀ p ∈ own, p.1 ∈ fp) → (∀ b ∈ fp, ∃ o, (b, o) ∈ own) → J i m₁ nx g → Fr h₀ env.locals h m₁ → News h₀ env.locals h (nx ++ own) →
      wpAny (model prog w) A (assign target env v) (fun _ s₂ => wpAny (model prog w) A (execs body env) (GPost h₀ env.locals fp own (J (i + 1)) s.drawn s.os Q) E s₂) E { heap := h, gens := g, drawn := s.drawn, toks := tk, os := s.os })
    (done : ∀ m₁ nx h tk g, (∀ p ∈ nx, p.1 ∉ fp) → J n m₁ nx g → Fr h₀ env.locals h m₁ → News h₀ env.locals h nx → wpAny (model prog w) A (execs orelse env) Q E { heap := h, gens := g, drawn := s.drawn, toks := tk, os := s.os }) :
    GLoop prog w A env target body orelse Q E (.ref I) s := by
  have hLw : env.locals ∉ wr := fun h => hLf (W.sub _ h)
  have old : ∀ b o, h₀.get? b = some o → b ∉ wr := fun b o e hb => by rw [hwr b hb] at e; cases e
  unfold GLoop
  refine codeAny_forLoop_any
    (fun k s' => ∃ i h' tk' g' m' nx, s' = { heap := h', gens := g', drawn := s.drawn, toks := tk', os := s.os } ∧ i ≤ n ∧ k = n - i ∧ St i h' ∧ Fr h₀ env.locals h' m' ∧ News h₀ env.locals h' nx ∧ (∀ p ∈ nx, p.1 ∉ fp) ∧ J i m' nx g') ?_ n
    ⟨0, s.heap, s.toks, s.gens, m₀, news, rfl, Nat.zero_le _, rfl, hst, F, N, hfp, hj⟩
  rintro k s' ⟨i, h', tk', g', m', nx, rfl, hi, rfl, hst', F', N', hfp', hJ⟩
  have move : ∀ h₁ : Heap, (∀ b o, b ∉ wr → h'.get? b = some o → h₁.get? b = some o) → Fr h₀ env.locals h₁ m' ∧ News h₀ env.locals h₁ nx := fun h₁ hk =>
    ⟨⟨F'.ns.at' fun o e => hk _ o hLw e, fun b o e => hk b o (old b o e) (F'.keep b o e), F'.above⟩, fun p hp => ⟨hk _ _ (fun hw => hfp' p hp (W.sub _ hw)) (N' p hp).1, (N' p hp).2⟩⟩
  rcases Nat.lt_or_ge i n with hlt | hge
  · refine W.item i _ _ _ hlt hst' fun v h₁ tk₁ hP hst₁ hk => ?_
    obtain ⟨F₁, N₁⟩ := move h₁ hk
    have Nown : News h₀ env.locals h₁ (ownOf h₀ fp h₁) := news_ownOf hLf
    refine wpAny_passesOwn hE (hgo (i + 1) _ v _ hst₁ ?_)
    refine wpAny_passesOwn hE (wpAny_mono (turn i v m' nx h₁ tk₁ g' (ownOf h₀ fp h₁) hlt hP (fun p hp b hb e => ?_) hfp' ownOf_sub (fun b hb => let ⟨o, e⟩ := hob _ _ hst₁ b hb; ⟨o, mem_ownOf hb (hf0 b hb) e⟩) hJ F₁ (N₁.append Nown)) (fun _ s₂ h₂ => wpAny_passesOwn hE (wpAny_mono h₂ (fun f s₃ h₃ => ?_) fun _ _ e => e)) fun _ _ e => e)
    · obtain ⟨q, hq, rfl⟩ := List.mem_map.mp hb
      exact hfp' q hq (e ▸ ownOf_sub p hp)
    · have fin : GEnd h₀ env.locals fp (ownOf h₀ fp h₁) (J (i + 1)) s.drawn s.os s₃ → ∃ m, m < n - i ∧ ∃ i h' tk' g' m' nx, s₃ = { heap := h', gens := g', drawn := s.drawn, toks := tk', os := s.os } ∧ i ≤ n ∧ m = n - i ∧ St i h' ∧ Fr h₀ env.locals h' m' ∧ News h₀ env.locals h' nx ∧ (∀ p ∈ nx, p.1 ∉ fp) ∧ J i m' nx g' := by
        rintro ⟨h₂', tk₂, g₂, m₂, nx₂, rfl, F₂, N₂, hf₂, hJ₂⟩
        refine ⟨n - (i + 1), by omega, i + 1, h₂', tk₂, g₂, m₂, nx₂, rfl, hlt, rfl, ?_, F₂, fun p hp => N₂ p (List.mem_append_left _ hp), hf₂, hJ₂⟩
        refine W.frame _ _ _ hst₁ fun b hb o e => ?_
        cases hn : h₀.get? b with
        | some o₀ =>
          have h1 := F₁.keep b o₀ hn
          rw [e] at h1
          cases h1
          exact F₂.keep b o hn
        | none => exact (N₂ _ (List.mem_append_right _ (mem_ownOf hb hn e))).1
      cases f with
      | next => exact fin h₃
      | cont => exact fin h₃
      | brk => exact h₃
      | ret v => exact h₃
  · have e : i = n := by omega
    subst e
    refine W.done _ _ _ hst' fun h₁ tk₁ hk => wpAny_passesOwn hE ?_
    obtain ⟨F₁, N₁⟩ := move h₁ hk
    exact done m' nx h₁ tk₁ g' hfp' hJ F₁ N₁
/-- over a list of the call's own -/
theorem glist2 {l : Addr} {items : Array Value} {m₀ : Str → Option Value} {news : List (Addr × Obj)} (J : Nat → (Str → Option Value) → List (Addr × Obj) → Array GenState → Prop)
    (hl : s.heap.IsList l items) (hl0 : h₀.get? l = none) (hlL : l ≠ env.locals) (hln : ∀ p ∈ news, p.1 ≠ l)
    (hh : A.handled = none) (F : Fr h₀ env.locals s.heap m₀) (N : News h₀ env.locals s.heap news) (hj : J 0 m₀ news s.gens)
    (hE : PassesOwn (model prog w) A env E)
    (turn : ∀ i v m₁ nx h tk g own, items[i]? = some v → OwnOff own (nx.map (·.1)) → (∀ p ∈ nx, p.1 ∉ [s.heap.objs.size, l]) → (∀ p ∈ own, p.1 ∈ [s.heap.objs.size, l]) → (∀ b ∈ [s.heap.objs.size, l], ∃ o, (b, o) ∈ own) → J i m₁ nx g → Fr h₀ env.locals h m₁ → News h₀ env.locals h (nx ++ own) →
      wpAny (model prog w) A (assign target env v) (fun _ s₂ => wpAny (model prog w) A (execs body env) (GPost h₀ env.locals [s.heap.objs.size, l] own (J (i + 1)) s.drawn s.os Q) E s₂) E { heap := h, gens := g, drawn := s.drawn, toks := tk, os := s.os })
    (done : ∀ m₁ nx h tk g, (∀ p ∈ nx, p.1 ∉ [s.heap.objs.size, l]) → J items.size m₁ nx g → Fr h₀ env.locals h m₁ → News h₀ env.locals h nx → wpAny (model prog w) A (execs orelse env) Q E { heap := h, gens := g, drawn := s.drawn, toks := tk, os := s.os }) :
    wpAny (model prog w) A (pyIter (.ref l)) (fun it s₂ => GLoop prog w A env target body orelse Q E it s₂) E s := by
  refine wpAny_pyIter_list hl ?_
  obtain ⟨ol, hol, _⟩ := id hl
  have hlt : l < s.heap.objs.size := Heap.lt_size hol
  have hne : l ≠ s.heap.objs.size := Nat.ne_of_lt hlt
  refine gloop2 (h₀ := h₀) (m₀ := m₀) (news := news) (s := { s with heap := s.heap.push { cls := .type "list_iterator", data := .fields #[.ref l, .int 0 0] } }) J (Walks.list hh s.heap.objs.size l hne items) ?_ ?hob ?hf0 ?_ ⟨⟨_, Heap.get?_push_size _ rfl, rfl, rfl⟩, hl.at fun o e => Heap.get?_push_of_some _ e⟩ (F.push _) (fun p hp => ⟨Heap.get?_push_of_some _ (N p hp).1, (N p hp).2⟩) ?_ hj (fun i s' v Q' st hQ' => letGo_listiter st.1 hQ') hE ?_ ?_
  case hob =>
    rintro i h ⟨⟨o1, e1, _⟩, ⟨o2, e2, _⟩⟩ b hb
    rcases List.mem_cons.mp hb with rfl | hb
    · exact ⟨o1, e1⟩
    · rw [List.mem_singleton.mp hb]; exact ⟨o2, e2⟩
  case hf0 =>
    intro b hb
    rcases List.mem_cons.mp hb with rfl | hb
    · exact next_is_new F
    · rw [List.mem_singleton.mp hb]; exact hl0
  · intro hm
    rcases List.mem_cons.mp hm with e | hm
    · exact absurd F.ns.lt (e ▸ Nat.lt_irrefl _)
    · exact hlL (List.mem_singleton.mp hm).symm
  · intro b' hb
    rw [List.mem_singleton.mp hb]
    exact next_is_new F
  · intro p hp hI
    rcases List.mem_cons.mp hI with e | hI
    · exact absurd (Heap.lt_size (N p hp).1) (e ▸ Nat.lt_irrefl _)
    · exact hln p hp (List.mem_singleton.mp hI)
  · rintro i v m₁ nx h tk g own hi hv hoff hnx how hex hJ F₁ N₁
    exact turn i v m₁ nx h tk g own hv hoff hnx how hex hJ F₁ N₁
  · intro m₁ nx h tk g hnx hJ F₁ N₁
    exact done m₁ nx h tk g hnx hJ F₁ N₁
end
end Mine
end
section
open PySem PySem.W PySem.W.X PySem.Calls PyProof.Rows
namespace Mine
local macro_rules | `(tactic| k_room) => `(tactic| ((try simp only [depth_under_make, depth_under_kw, depth_in1, depth_deeper, depth_caller]); (simp only [recursionLimit] at *); omega))
local macro_rules | `(tactic| cell_enter) => `(tactic| first
  | (refine' pEnter [] ?k1 ?k2 ?k6 ?k7 ?k8 ?k9 ?kB ?_ ?c2 ?c3 ?c4 ?c5; (case k1 => k_asm); (case k2 => exact TopRead.nolimit (by assumption)); (case k6 => k_is); (case k7 => k_is); (case k8 => k_room); (case k9 => first | exact BindsTo.of_eq rfl | exact binds_K (by k_in) rfl (by k_is) rfl rfl rfl | fail "no rule for these arguments"); (case c5 => decide); (case kB => exact locs rfl); (case c2 => exact rfl); (case c3 => exact rfl); (case c4 => exact rfl); k_whole; intro h₁ L₁ hL₁ F₁ K₁; (rw [hideNil] at F₁); (have N₁ := newsNil F₁); (try dsimp only); (try k_fold))
  | (refine' pEnterC [] ?k1 ?k2 ?k6 ?k7 ?k8 ?k9 ?kB ?kD ?_ ?c2 ?c3 ?c4; (case k1 => k_asm); (case k2 => exact TopRead.nolimit (by assumption)); (case k6 => k_is); (case k7 => k_is); (case k8 => k_room); (case k9 => first | exact BindsTo.of_eq rfl | exact binds_K (by k_in) rfl (by k_is) rfl rfl rfl | fail "no rule for these arguments"); (case kB => exact rfl); (case kD => decide +kernel); (case c2 => exact rfl); (case c3 => exact rfl); (case c4 => exact rfl); k_whole; intro h₁ L₁ tk₁ cells₁ hL₁ F₁ N₁ Y₁ K₁ C₁; (rw [hideNil] at F₁ N₁); k_cells Y₁; (try simp only [List.cons_append, List.nil_append] at N₁); (try dsimp only); (try k_fold)))

local macro_rules | `(tactic| walk_at "exec For Name Call cons nil") => `(tactic| (k_here; (with_reducible show wpAny _ _ (exec (Stmt.For _ _ _ _ _) _) _ _ _); (refine' For_G ?_ (fun _ => rfl))))
local macro_rules | `(tactic| walk_at "exec For Name Call") => `(tactic| (k_here; (with_reducible show wpAny _ _ (exec (Stmt.For _ _ _ _ _) _) _ _ _); (refine' For_G ?_ (fun _ => rfl))))
local macro_rules | `(tactic| walk_at "exec For") => `(tactic| (k_here; (with_reducible show wpAny _ _ (exec (Stmt.For _ _ _ _ _) _) _ _ _); (refine' For_G ?_ (fun _ => rfl))))
local macro_rules | `(tactic| walk_at "call builtin:list.append") => `(tactic| (k_here; (with_reducible show wpAny _ _ (call (Value.builtin _) [Value.ref _, _]) _ _ _); k_dflt (refine' append_K ?k1 ?k2 ?k3 ?_ ?z; (case k1 => k_asm); (case k2 => k_asm); (case k3 => k_upd); (case z => ((try simp only [List.size_toArray, List.length_map]); (have e9 : (1000 : Nat) ≤ sizeLine := by decide); omega)); k_whole); intro h' F' N'; (try k_sweep)))
local macro_rules | `(tactic| walk_at "call ref") => `(tactic| (k_here; (with_reducible show wpAny _ _ (call (Value.ref 283) [Value.str _ _]) _ _ _); (rename Fr _ _ _ _ => F9); (rename News _ _ _ _ => N9); (rename TopRead _ _ _ _ _ => T9); (refine' c_lawsize _ _ _ _ _ _ _ _ _ _ _ _ (Frag.In.keeps ?X (Fr.keep F9)) (TopRead.keeps T9 (Fr.keep F9)) ?d ?u ?p ?_; (case X => assumption); (case d => (try simp only [depth_deeper]); omega); (case u => (try simp only [units_deeper]); omega); (case p => assumption)); (intro v9 h9 tk9 K9 R9); (have F9' := Fr.keeps F9 K9); (have N9' := News.grown N9 K9); clear F9 N9; (obtain ⟨t8, e8⟩ := R9); (subst e8); (try dsimp only)))
def asInts (l : List Nat) : List Int := l.map fun (a : Nat) => (a : Int)
theorem asInts_length (l : List Nat) : (asInts l).length = l.length := by unfold asInts; simp
theorem asInts_push (l : List Nat) (a : Nat) : asInts (l ++ [a]) = asInts l ++ [(a : Int)] := by unfold asInts; simp
theorem ints_push {vs : List Value} {ns : List Int} (h : IntsAre vs ns) (a : Int) (t : Tok) : IntsAre (vs ++ [.int a t]) (ns ++ [a]) := by
  induction h with
  | nil => exact .cons _ _ .nil
  | cons i t _ ih => exact .cons _ _ ih
theorem word_at {t : Array Nat} {l : List (Nat × Nat)} {i p a b : Nat} (hw : WordsAt t p (l.drop i)) (h : l[i]? = some (a, b)) : a = p ∧ b = wend t p ∧ p < t.size ∧ 1 ≤ cnt nsp t (p + cnt isp t p) ∧ WordsAt t b (l.drop (i + 1)) := by
  obtain ⟨hi, e⟩ := List.getElem?_eq_some_iff.mp h
  rw [List.drop_eq_getElem_cons hi, e] at hw
  cases hw with
  | cons h1 h2 h3 => exact ⟨rfl, rfl, h1, h2, h3⟩
def ex (x : Str) (a b : Nat) : Str := ⟨x.cps.extract a b⟩
theorem ex_seg (x : Str) (a b : Nat) : (⟨x.cps.extract a b⟩ : Str).cps.toList = seg x.cps.toList a b := by
  show (x.cps.extract a b).toList = _
  rw [Array.toList_extract]; rfl
theorem ex_ok {x : Str} (h : okx x) (a b : Nat) : okx ⟨x.cps.extract a b⟩ := fun c hc => by
  rw [ex_seg] at hc
  unfold seg at hc
  exact h c (List.mem_of_mem_drop (List.mem_of_mem_take hc))
theorem ex_len (x : Str) (a b : Nat) : (⟨x.cps.extract a b⟩ : Str).length ≤ x.length := by
  show (x.cps.extract a b).size ≤ x.cps.size
  simp; omega
theorem size_rst {x : Str} (h : okx x) (a b : Nat) : sizeL (Txt.rstrip ⟨x.cps.extract a b⟩).cps.toList = sizeL (rstL (seg x.cps.toList a b)) := by rw [rst_list (ex_ok h a b), ex_seg]
local macro_rules | `(tactic| walk_at "binaryOp Add ref ref") => `(tactic| (k_here; (with_reducible show wpAny _ _ (binaryOp _ (Value.ref _) (Value.ref _)) _ _ _); k_dflt (refine' kmk_add_ints ?F ?N ?a ?b ?i ?j ?_ ?z; (case F => k_asm); (case N => k_asm); (case a => kmk_list); (case b => kmk_list); (case i => first | assumption | l_ints); (case j => l_ints); (case z => ((try simp only [asInts_length, List.length_cons, List.length_nil]); (have e9 : (1000 : Nat) ≤ sizeLine := by decide); omega))); intro D' ws' h' F' N' l1 hI'; (try k_lt l1); (try k_sweep)))
theorem brks_next {x : List Nat} {W : Int} {fold : Bool} {Ws : List (Nat × Nat)} {i a b : Nat} {st : List Nat × Int} (h : Ws[i]? = some (a, b)) : brks x W fold (Ws.take (i + 1)) st = brkStep x W fold a b (brks x W fold (Ws.take i) st) := by
  unfold brks
  rw [List.take_add_one, h, List.foldl_append]
  rfl
/-! one word's step, told by its two sizes -/
section
variable {x : List Nat} {W rs ss used : Int} {a b : Nat} {fnd : List Nat} (h1 : rs = sizeL (rstL (seg x a b))) (h2 : ss = sizeL (seg x a b))
include h1 h2
theorem bs_fit {fold : Bool} (hf : rs ≤ W - used) : brkStep x W fold a b (fnd, used) = (fnd, used + ss) := by
  unfold brkStep; rw [if_pos (by rw [← h1]; exact hf), h2]
theorem bs_cut {fold : Bool} (hf : ¬ rs ≤ W - used) (hs : rs ≤ W) (hu : used ≠ 0) (ha : a ≠ 0) : brkStep x W fold a b (fnd, used) = (fnd ++ [a], ss) := by
  unfold brkStep; rw [if_neg (by rw [← h1]; exact hf), if_pos (by rw [← h1]; exact hs), if_pos ⟨hu, ha⟩, h2]
theorem bs_stay {fold : Bool} (hf : ¬ rs ≤ W - used) (hs : rs ≤ W) (hu : ¬ (used ≠ 0 ∧ a ≠ 0)) : brkStep x W fold a b (fnd, used) = (fnd, used) := by
  unfold brkStep; rw [if_neg (by rw [← h1]; exact hf), if_pos (by rw [← h1]; exact hs), if_neg hu]
theorem bs_long (hf : ¬ rs ≤ W - used) (hs : ¬ rs ≤ W) : brkStep x W false a b (fnd, used) = (if a = 0 then fnd else fnd ++ [a], ss) := by
  unfold brkStep; rw [if_neg (by rw [← h1]; exact hf), if_neg (by rw [← h1]; exact hs), if_neg (by decide), h2]
theorem bs_fold (hf : ¬ rs ≤ W - used) (hs : ¬ rs ≤ W) : brkStep x W true a b (fnd, used) = parts a fnd used (chop W (seg x a b)) := by
  unfold brkStep; rw [if_neg (by rw [← h1]; exact hf), if_neg (by rw [← h1]; exact hs), if_pos rfl]
end
/-- the loop of _law_breaks, i words taken -/
def BJ (x : Str) (W : Nat) (tW : Tok) (fold : Bool) (Ws : List (Nat × Nat)) (sn : List (Addr × Obj)) (g₀ : Array GenState) (i : Nat) (m : Str → Option Value) (nx : List (Addr × Obj)) (g : Array GenState) : Prop :=
  g = g₀ ∧ ∃ (p : Nat) (fp : Addr) (vs : List Value) (k : Nat) (fnd : List Nat) (used : Int) (tu : Tok), nx = (fp, PySem.W.listOf vs.toArray k) :: sn ∧ OwnOff sn [fp] ∧ IntsAre vs (asInts fnd) ∧ WordsAt x.cps p (Ws.drop i) ∧ p ≤ x.cps.size ∧ fnd.length ≤ p ∧
    brks x.cps.toList (W : Int) fold (Ws.take i) ([], 0) = (fnd, used) ∧ m (Str.ofString "found") = some (.ref fp) ∧ m (Str.ofString "used") = some (.int used tu) ∧ m (Str.ofString "width") = some (.int W tW) ∧ m (Str.ofString "fold") = some (.bool fold)
theorem BJ.next {x : Str} {W : Nat} {tW : Tok} {fold : Bool} {Ws : List (Nat × Nat)} {sn : List (Addr × Obj)} {g₀ : Array GenState} {i a b : Nat} {m : Str → Option Value} {fp : Addr} {vs : List Value} {k : Nat} {fnd fnd' : List Nat} {used used' : Int} {tu : Tok}
    (hb : brks x.cps.toList (W : Int) fold (Ws.take i) ([], 0) = (fnd, used)) (hW : Ws[i]? = some (a, b)) (hst : brkStep x.cps.toList (W : Int) fold a b (fnd, used) = (fnd', used')) (hoff : OwnOff sn [fp]) (hv : IntsAre vs (asInts fnd')) (hw : WordsAt x.cps b (Ws.drop (i + 1))) (hb1 : b ≤ x.cps.size) (hl : fnd'.length ≤ b)
    (e1 : m (Str.ofString "found") = some (.ref fp)) (e2 : m (Str.ofString "used") = some (.int used' tu)) (e3 : m (Str.ofString "width") = some (.int W tW)) (e4 : m (Str.ofString "fold") = some (.bool fold)) :
    BJ x W tW fold Ws sn g₀ (i + 1) m ((fp, PySem.W.listOf vs.toArray k) :: sn) g₀ :=
  ⟨rfl, b, fp, vs, k, fnd', used', tu, rfl, hoff, hv, hw, hb1, hl, by rw [brks_next hW, hb, hst], e1, e2, e3, e4⟩
theorem here_news {x : Str} {W : List (Nat × Nat)} {h₀ h₁ h' : Heap} {L D : Addr} {m : Str → Option Value} {ds : List Addr} {k : Nat} (F : Fr h₀ L h₁ m) (S : WordsHere x W h₁ h' D ds k) :
    News h₀ L h' (ownOf h₀ ds h') ∧ (∀ p ∈ ownOf h₀ ds h', p.1 ≠ D) ∧ (∀ (j : Nat) (d : Addr), ds[j]? = some d → ∃ a b ta tb tx, W[j]? = some (a, b) ∧ (d, tupObj a b ta tb x tx) ∈ ownOf h₀ ds h') ∧ ∀ p ∈ ownOf h₀ ds h', h₁.get? p.1 = none := by
  obtain ⟨_, _, _, h⟩ := S
  have nn : ∀ p ∈ ownOf h₀ ds h', h₁.get? p.1 = none := fun p hp => by
    obtain ⟨j, hj⟩ := List.mem_iff_getElem?.mp (ownOf_sub p hp)
    exact (h j _ hj).2.1
  refine ⟨news_ownOf fun hm => ?_, fun p hp e => ?_, fun j d hj => ?_, nn⟩
  · obtain ⟨j, hj⟩ := List.mem_iff_getElem?.mp hm
    have h1 := (h j _ hj).2.1
    obtain ⟨o, _, _, h2, _⟩ := F.ns
    rw [h1] at h2; cases h2
  · obtain ⟨j, hj⟩ := List.mem_iff_getElem?.mp (ownOf_sub p hp)
    exact (h j _ hj).2.2 e
  · obtain ⟨⟨a, b, ta, tb, tx, h0, h1⟩, h2, _⟩ := h j d hj
    refine ⟨a, b, ta, tb, tx, h0, mem_ownOf (List.mem_of_getElem? hj) ?_ h1⟩
    cases q : h₀.get? d with
    | none => rfl
    | some o => have := F.keep d o q; rw [h2] at this; cases this
/-- the inner loop of _law_breaks, j parts taken -/
def PJ (W : Nat) (tW : Tok) (b : Nat) (zl : List (List Nat)) (res : List Nat × Int) (rr : List (Addr × Obj)) (g₀ : Array GenState) (j : Nat) (m : Str → Option Value) (nx : List (Addr × Obj)) (g : Array GenState) : Prop :=
  g = g₀ ∧ ∃ (fp : Addr) (vs : List Value) (k : Nat) (fnd : List Nat) (used : Int) (a : Nat) (tu ta : Tok), nx = (fp, PySem.W.listOf vs.toArray k) :: rr ∧ (∀ p ∈ rr, p.1 ≠ fp) ∧ IntsAre vs (asInts fnd) ∧ parts a fnd used (zl.drop j) = res ∧ fnd.length ≤ a ∧ a + (zl.drop j).flatten.length = b ∧
    m (Str.ofString "found") = some (.ref fp) ∧ m (Str.ofString "used") = some (.int used tu) ∧ m (Str.ofString "begin") = some (.int a ta) ∧ m (Str.ofString "width") = some (.int W tW) ∧ m (Str.ofString "fold") = some (.bool true)
theorem parts_at {zl : List (List Nat)} {j a : Nat} {fnd : List Nat} {used : Int} {z : List Nat} (h : zl[j]? = some z) : parts a fnd used (zl.drop j) = parts (a + z.length) (if a = 0 then fnd else fnd ++ [a]) (sizeL z) (zl.drop (j + 1)) := by
  obtain ⟨hi, e⟩ := List.getElem?_eq_some_iff.mp h
  rw [List.drop_eq_getElem_cons hi, e]; rfl
theorem flat_at {zl : List (List Nat)} {j : Nat} {z : List Nat} (h : zl[j]? = some z) : (zl.drop j).flatten.length = z.length + (zl.drop (j + 1)).flatten.length := by
  obtain ⟨hi, e⟩ := List.getElem?_eq_some_iff.mp h
  rw [List.drop_eq_getElem_cons hi, e, List.flatten_cons, List.length_append]
theorem len_flat {z : List Nat} : ∀ {l : List (List Nat)}, z ∈ l → z.length ≤ l.flatten.length
  | y :: l, h => by
    rw [List.flatten_cons, List.length_append]
    rcases List.mem_cons.mp h with rfl | h
    · omega
    · have := len_flat h; omega
theorem PJ.next {W : Nat} {tW : Tok} {b : Nat} {zl : List (List Nat)} {res : List Nat × Int} {rr : List (Addr × Obj)} {g₀ : Array GenState} {j : Nat} {m : Str → Option Value} {fp : Addr} {vs : List Value} {k : Nat} {fnd fnd' : List Nat} {used sz : Int} {a : Nat} {z : Str} {tu ta : Tok}
    (hz : zl[j]? = some z.cps.toList) (hne : z.cps.toList ≠ []) (hp : parts a fnd used (zl.drop j) = res) (hl : fnd.length ≤ a) (hb : a + (zl.drop j).flatten.length = b) (hf : fnd' = if a = 0 then fnd else fnd ++ [a]) (hsz : sz = sizeL z.cps.toList)
    (hr : ∀ p ∈ rr, p.1 ≠ fp) (hv : IntsAre vs (asInts fnd'))
    (e1 : m (Str.ofString "found") = some (.ref fp)) (e2 : m (Str.ofString "used") = some (.int sz tu)) (e3 : m (Str.ofString "begin") = some (.int ((a : Int) + (z.length : Int)) ta)) (e4 : m (Str.ofString "width") = some (.int W tW)) (e5 : m (Str.ofString "fold") = some (.bool true)) :
    PJ W tW b zl res rr g₀ (j + 1) m ((fp, PySem.W.listOf vs.toArray k) :: rr) g₀ := by
  have hzl : z.cps.toList.length = z.length := by simp [Str.length]
  have hpos : 1 ≤ z.cps.toList.length := List.length_pos_iff.mpr hne
  have h1 := flat_at hz
  refine ⟨rfl, fp, vs, k, fnd', sizeL z.cps.toList, a + z.length, tu, ta, rfl, hr, hv, ?_, ?_, by omega, e1, hsz ▸ e2, ?_, e4, e5⟩
  · rw [← hp, parts_at hz, hzl, hf]
  · rw [hf]
    split
    · omega
    · rw [List.length_append, List.length_singleton]; omega
  · rw [e3, Int.natCast_add]
theorem c_lbreaks (w : World) (mg mb) (x : Str) (t : Tok) (Ws : List (Nat × Nat)) (hw : WordsAt x.cps 0 Ws) (W : Nat) (tW : Tok) (fold : Bool) (dp : Nat) (fr : Option (List Env)) (gd : Option (List Code)) (un : Nat) (s : Shared) (Q E : Value → Shared → Prop)
    (hK : (hd.heap_39 w.params).In s.heap) (hT : TopRead hd.view_39 LP mg mb s.heap) (hdp : dp + 40 < 900) (hun : un + 800 < 9000) (hok : okx x) (hlen : x.length < 500) (hW : 2 ≤ W) (hW2 : W < 100)
    (hret : ∀ D vs n h' tk', Keep s.heap h' → h'.get? D = some (PySem.W.listOf vs.toArray n) → s.heap.get? D = none → IntsAre vs (asInts (brks x.cps.toList (W : Int) fold Ws ([], 0)).1) → Q (.ref D) { heap := h', gens := s.gens, drawn := s.drawn, toks := tk', os := s.os }) :
    wpAny (model PySem.Challenge.rw_ey0021_01.row.prog w) (AA dp fr gd un) (call (.ref 309) [.str x t, .int W tW, .bool fold]) Q E s := by
  revert hK; k_fill; intro hK
  refine wpAny_call ?_
  k_dflt cell_enter
  k_steps
  rename Fr _ _ _ _ => F9
  rename News _ _ _ _ => N9
  rename TopRead _ _ _ _ _ => hT
  rename_i l0 _ _ Dq _ _ _ _ _
  refine c_lwords w mg mb x t Ws hw (dp + 1) _ _ _ _ _ _ (hK.keeps F9.keep) (hT.keeps F9.keep) (by omega) (by (try simp only [units_deeper]); omega) hlen ?_
  rintro D ds k h8 tk8 K8 H8
  obtain ⟨Ns, osD, hsp, hsn⟩ := here_news F9 H8
  have hl0 := N9 _ (.tail _ (.head _))
  have o0 : OwnOff (ownOf s.heap ds h8) [l0] := fun p hp b hb e => by
    rw [List.mem_singleton.mp hb] at e
    have h1 := hsn p hp
    rw [e, hl0.1] at h1; cases h1
  have hD0 : s.heap.get? D = none := by
    cases q : s.heap.get? D with
    | none => rfl
    | some o => have := F9.keep D o q; rw [H8.2.1] at this; cases this
  have hDl : l0 ≠ D := fun e => by
    have h1 := H8.2.1
    rw [← e, hl0.1] at h1; cases h1
  have hLD := (News.fresh F9 N9 K8 H8.2.1 H8.1 _ (.head _)).2.1
  have N8 : News s.heap _ h8 ((l0, PySem.W.listOf (#[] : Array Value) 0) :: ownOf s.heap ds h8) := fun p hp => by
    rcases List.mem_cons.mp hp with rfl | hp
    · exact News.grown N9 K8 _ (.tail _ (.head _))
    · exact Ns p hp
  have F8 := Fr.keeps F9 K8
  obtain ⟨sn, esn⟩ : ∃ sn, sn = ownOf s.heap ds h8 := ⟨_, rfl⟩
  rw [← esn] at Ns osD hsp hsn o0 N8
  clear F9 N9 Ns
  refine' glist2 (l := D) (items := (ds.map Value.ref).toArray) (news := (l0, PySem.W.listOf (#[] : Array Value) 0) :: sn) (BJ x W tW fold Ws sn s.gens) ⟨_, H8.1, rfl, _, rfl⟩ hD0 hLD ?hln rfl F8 N8
    ⟨rfl, 0, l0, [], 0, [], 0, _, rfl, o0, .nil, hw, Nat.zero_le _, Nat.le_refl _, rfl, rfl, rfl, rfl, rfl⟩ ?hE ?turn ?done
  case hln =>
    intro p hp
    rcases List.mem_cons.mp hp with rfl | hp
    · exact hDl
    · exact osD p hp
  case hE => passes_own
  case turn =>
    rintro i v m₁ nx h tk g own hv hoff hnx how hex ⟨rfl, p, fp, vs, kk, fnd, used, tu, rfl, ho, hvs, hwp, hp, hfl, hbr, e1, e2, e3, e4⟩ F N
    clear F8 N8
    have hi : i < ds.length := by
      have := (Array.getElem?_eq_some_iff.mp hv).1
      simpa using this
    have hv' : (ds.map Value.ref)[i]? = some v := by simpa using hv
    rw [List.getElem?_map, List.getElem?_eq_getElem hi] at hv'
    obtain rfl : Value.ref ds[i] = v := by simpa using hv'
    obtain ⟨a, b, ta, tb, tx, hWi, hmem⟩ := hsp i ds[i] (List.getElem?_eq_getElem hi)
    obtain ⟨rfl, hbe, hps, hcn, hwn⟩ := word_at hwp hWi
    have hble : b ≤ x.cps.size := hbe ▸ wend_le hp
    have hab : a < b := by rw [hbe]; unfold wend; omega
    have hxl : x.cps.size < 500 := hlen
    have hvl : vs.length < 500 := by have := hvs.length; rw [asInts_length] at this; omega
    have hfl2 : fnd.length < 500 := by omega
    have hzl : (⟨x.cps.extract a b⟩ : Str).length < 500 := Nat.lt_of_le_of_lt (ex_len x a b) hlen
    have hrl : (Txt.rstrip ⟨x.cps.extract a b⟩).length < 500 := Nat.lt_of_le_of_lt (fact_rstrip _) hzl
    have h1 := size_rst hok a b
    have h2 := congrArg sizeL (ex_seg x a b)
    have F7 := (Fr.know (y := Str.ofString "fold") (Fr.know (y := Str.ofString "width") (Fr.know (y := Str.ofString "used") (Fr.know (y := Str.ofString "found") F e1) e2) e3) e4)
    obtain ⟨rr, hrr⟩ : ∃ rr, rr = sn ++ own := ⟨_, rfl⟩
    have hro : OwnOff rr [fp] := by
      intro q hq b hb
      rw [List.mem_singleton.mp hb]
      rw [hrr] at hq
      rcases List.mem_append.mp hq with hq | hq
      · exact ho q hq fp (.head _)
      · exact hoff q hq fp (.head _)
    have hdf : ds[i] ≠ fp := ho _ hmem fp (.head _)
    have N6 : News s.heap _ h ((ds[i], { cls := .type "tuple", data := .seq #[.int a ta, .int b tb, .str ⟨x.cps.extract a b⟩ tx] }) :: (fp, PySem.W.listOf vs.toArray kk) :: rr) := fun q hq => by
      rcases List.mem_cons.mp hq with rfl | hq
      · exact N _ (.tail _ (List.mem_append_left _ hmem))
      · rw [hrr] at hq
        exact N q hq
    clear F N
    cases hfo : fold
    · rw [hfo] at F7
      subst hfo
      k_steps
      · rename Fr _ _ _ _ => F9
        rename News _ _ _ _ => N9
        exact GPost.fin (_ :: sn) F9 (fun q hq => by
          rcases List.mem_cons.mp (show q ∈ _ :: (sn ++ own) from hq) with rfl | hq
          · exact N9 _ (by k_mem)
          · rw [← hrr] at hq; exact N9 q (by repeat (first | exact hq | refine List.Mem.tail _ ?_))) (fun q hq => by
          rcases List.mem_cons.mp hq with rfl | hq
          · exact hnx (fp, PySem.W.listOf vs.toArray kk) (.head _)
          · exact hnx q (.tail _ hq)) (BJ.next hbr hWi (bs_fit h1 h2 (by assumption)) ho (hvs) hwn hble (by omega) rfl rfl rfl rfl)
      · rename Fr _ _ _ _ => F9
        rename News _ _ _ _ => N9
        rw [List.push_toArray] at N9
        exact GPost.fin (_ :: sn) F9 (fun q hq => by
          rcases List.mem_cons.mp (show q ∈ _ :: (sn ++ own) from hq) with rfl | hq
          · exact N9 _ (by k_mem)
          · rw [← hrr] at hq; exact N9 q (by repeat (first | exact hq | refine List.Mem.tail _ ?_))) (fun q hq => by
          rcases List.mem_cons.mp hq with rfl | hq
          · exact hnx (fp, PySem.W.listOf vs.toArray kk) (.head _)
          · exact hnx q (.tail _ hq)) (BJ.next hbr hWi (bs_cut h1 h2 (by assumption) (by assumption) (by assumption) (by omega)) ho (by rw [asInts_push]; exact ints_push hvs _ _) hwn hble (by simp; omega) rfl rfl rfl rfl)
      · rename Fr _ _ _ _ => F9
        rename News _ _ _ _ => N9
        exact GPost.fin (_ :: sn) F9 (fun q hq => by
          rcases List.mem_cons.mp (show q ∈ _ :: (sn ++ own) from hq) with rfl | hq
          · exact N9 _ (by k_mem)
          · rw [← hrr] at hq; exact N9 q (by repeat (first | exact hq | refine List.Mem.tail _ ?_))) (fun q hq => by
          rcases List.mem_cons.mp hq with rfl | hq
          · exact hnx (fp, PySem.W.listOf vs.toArray kk) (.head _)
          · exact hnx q (.tail _ hq)) (BJ.next hbr hWi (bs_stay h1 h2 (by assumption) (by assumption) (by omega)) ho (hvs) hwn hble (by omega) rfl rfl rfl rfl)
      · rename Fr _ _ _ _ => F9
        rename News _ _ _ _ => N9
        exact GPost.fin (_ :: sn) F9 (fun q hq => by
          rcases List.mem_cons.mp (show q ∈ _ :: (sn ++ own) from hq) with rfl | hq
          · exact N9 _ (by k_mem)
          · rw [← hrr] at hq; exact N9 q (by repeat (first | exact hq | refine List.Mem.tail _ ?_))) (fun q hq => by
          rcases List.mem_cons.mp hq with rfl | hq
          · exact hnx (fp, PySem.W.listOf vs.toArray kk) (.head _)
          · exact hnx q (.tail _ hq)) (BJ.next hbr hWi (bs_stay h1 h2 (by assumption) (by assumption) (by omega)) ho (hvs) hwn hble (by omega) rfl rfl rfl rfl)
      · rename Fr _ _ _ _ => F9
        rename News _ _ _ _ => N9
        rename _ ∧ _ ∧ _ ∧ AllLt _ _ => l9
        rename IntsAre _ (_ ++ _) => hI9
        exact GPost.fin (_ :: sn) F9 (fun q hq => by
          rcases List.mem_cons.mp (show q ∈ _ :: (sn ++ own) from hq) with rfl | hq
          · exact N9 _ (by k_mem)
          · rw [← hrr] at hq; exact N9 q (by repeat (first | exact hq | refine List.Mem.tail _ ?_))) (fun q hq => by
          rcases List.mem_cons.mp hq with rfl | hq
          · intro hb
            obtain ⟨o, ho⟩ := hex _ hb
            exact Nat.lt_irrefl _ (allLt_mem l9.2.2.2 _ (by rw [hrr]; exact List.mem_append_right _ ho))
          · exact hnx q (.tail _ hq)) (BJ.next hbr hWi ((bs_long h1 h2 (by assumption) (by assumption)).trans (by rw [if_neg (show a ≠ 0 by omega)])) (fun q hq b hb => by rw [List.mem_singleton.mp hb]; exact Nat.ne_of_lt (allLt_mem l9.2.2.2 _ (by rw [hrr]; exact List.mem_append_left _ hq))) (by rw [asInts_push]; exact hI9) hwn hble (by simp; omega) rfl rfl rfl rfl)
      · rename Fr _ _ _ _ => F9
        rename News _ _ _ _ => N9
        rename _ ∧ _ ∧ _ ∧ AllLt _ _ => l9
        rename IntsAre _ (_ ++ _) => hI9
        exact GPost.fin (_ :: sn) F9 (fun q hq => by
          rcases List.mem_cons.mp (show q ∈ _ :: (sn ++ own) from hq) with rfl | hq
          · exact N9 _ (by k_mem)
          · rw [← hrr] at hq; exact N9 q (by repeat (first | exact hq | refine List.Mem.tail _ ?_))) (fun q hq => by
          rcases List.mem_cons.mp hq with rfl | hq
          · intro hb
            obtain ⟨o, ho⟩ := hex _ hb
            exact Nat.lt_irrefl _ (allLt_mem l9.2.2.2 _ (by rw [hrr]; exact List.mem_append_right _ ho))
          · exact hnx q (.tail _ hq)) (BJ.next hbr hWi ((bs_long h1 h2 (by assumption) (by assumption)).trans (by rw [if_pos (show a = 0 by omega)])) (fun q hq b hb => by rw [List.mem_singleton.mp hb]; exact Nat.ne_of_lt (allLt_mem l9.2.2.2 _ (by rw [hrr]; exact List.mem_append_left _ hq))) (by rw [List.append_nil] at hI9; exact hI9) hwn hble (by omega) rfl rfl rfl rfl)
    · rw [hfo] at F7
      subst hfo
      k_steps
      · rename Fr _ _ _ _ => F9
        rename News _ _ _ _ => N9
        exact GPost.fin (_ :: sn) F9 (fun q hq => by
          rcases List.mem_cons.mp (show q ∈ _ :: (sn ++ own) from hq) with rfl | hq
          · exact N9 _ (by k_mem)
          · rw [← hrr] at hq; exact N9 q (by repeat (first | exact hq | refine List.Mem.tail _ ?_))) (fun q hq => by
          rcases List.mem_cons.mp hq with rfl | hq
          · exact hnx (fp, PySem.W.listOf vs.toArray kk) (.head _)
          · exact hnx q (.tail _ hq)) (BJ.next hbr hWi (bs_fit h1 h2 (by assumption)) ho (hvs) hwn hble (by omega) rfl rfl rfl rfl)
      · rename Fr _ _ _ _ => F9
        rename News _ _ _ _ => N9
        rw [List.push_toArray] at N9
        exact GPost.fin (_ :: sn) F9 (fun q hq => by
          rcases List.mem_cons.mp (show q ∈ _ :: (sn ++ own) from hq) with rfl | hq
          · exact N9 _ (by k_mem)
          · rw [← hrr] at hq; exact N9 q (by repeat (first | exact hq | refine List.Mem.tail _ ?_))) (fun q hq => by
          rcases List.mem_cons.mp hq with rfl | hq
          · exact hnx (fp, PySem.W.listOf vs.toArray kk) (.head _)
          · exact hnx q (.tail _ hq)) (BJ.next hbr hWi (bs_cut h1 h2 (by assumption) (by assumption) (by assumption) (by omega)) ho (by rw [asInts_push]; exact ints_push hvs _ _) hwn hble (by simp; omega) rfl rfl rfl rfl)
      · rename Fr _ _ _ _ => F9
        rename News _ _ _ _ => N9
        exact GPost.fin (_ :: sn) F9 (fun q hq => by
          rcases List.mem_cons.mp (show q ∈ _ :: (sn ++ own) from hq) with rfl | hq
          · exact N9 _ (by k_mem)
          · rw [← hrr] at hq; exact N9 q (by repeat (first | exact hq | refine List.Mem.tail _ ?_))) (fun q hq => by
          rcases List.mem_cons.mp hq with rfl | hq
          · exact hnx (fp, PySem.W.listOf vs.toArray kk) (.head _)
          · exact hnx q (.tail _ hq)) (BJ.next hbr hWi (bs_stay h1 h2 (by assumption) (by assumption) (by omega)) ho (hvs) hwn hble (by omega) rfl rfl rfl rfl)
      · rename Fr _ _ _ _ => F9
        rename News _ _ _ _ => N9
        exact GPost.fin (_ :: sn) F9 (fun q hq => by
          rcases List.mem_cons.mp (show q ∈ _ :: (sn ++ own) from hq) with rfl | hq
          · exact N9 _ (by k_mem)
          · rw [← hrr] at hq; exact N9 q (by repeat (first | exact hq | refine List.Mem.tail _ ?_))) (fun q hq => by
          rcases List.mem_cons.mp hq with rfl | hq
          · exact hnx (fp, PySem.W.listOf vs.toArray kk) (.head _)
          · exact hnx q (.tail _ hq)) (BJ.next hbr hWi (bs_stay h1 h2 (by assumption) (by assumption) (by omega)) ho (hvs) hwn hble (by omega) rfl rfl rfl rfl)
      · rename Fr _ _ _ _ => F9
        rename News _ _ _ _ => N9
        rename TopRead _ _ _ _ _ => hT
        have hst := bs_fold (x := x.cps.toList) (fnd := fnd) h1 h2 (by assumption) (by assumption)
        refine c_lchop w mg mb ⟨x.cps.extract a b⟩ tx W tW (dp + 1) _ _ _ _ _ _ (hK.keeps F9.keep) (hT.keeps F9.keep) (by omega) (by (try simp only [units_deeper]); omega) hzl hW hW2 ?_
        rintro CD cvs cn zs h9 tk9 K9 eCD zCD hcs hcz
        rw [ex_seg] at hcz
        have hCD0 : s.heap.get? CD = none := by
          cases q : s.heap.get? CD with
          | none => rfl
          | some o => have := F9.keep CD o q; rw [zCD] at this; cases this
        have hLC := (News.fresh F9 N9 K9 zCD eCD _ (.head _)).2.1
        have N8 := News.grown N9 K9
        have F8 := Fr.keeps F9 K9
        have hcl : ∀ q ∈ (ds[i], { cls := .type "tuple", data := .seq #[.int a ta, .int b tb, .str ⟨x.cps.extract a b⟩ tx] }) :: (fp, PySem.W.listOf vs.toArray kk) :: rr, q.1 ≠ CD := fun q hq e => by
          have h1 := (N9 q hq).1
          rw [e, zCD] at h1; cases h1
        have hflat : ((zs.map fun z => z.cps.toList).drop 0).flatten.length = b - a := by
          rw [List.drop_zero, hcz, chop_flat, seg_length (by simpa using hble)]
        have hzsl : ∀ z ∈ zs, z.length < 500 := fun z hz => by
          have h3 : z.cps.toList ∈ chop (W : Int) (seg x.cps.toList a b) := hcz ▸ List.mem_map.mpr ⟨z, hz, rfl⟩
          have h4 := len_flat h3
          rw [chop_flat, seg_length (by simpa using hble)] at h4
          have h5 : z.cps.toList.length = z.length := by simp [Str.length]
          omega
        clear F9 N9
        have hro1 : ∀ q ∈ rr, q.1 ≠ fp := fun q hq => hro q hq fp (.head _)
        refine' glist2 (l := CD) (items := cvs.toArray) (news := (fp, PySem.W.listOf vs.toArray kk) :: rr) (PJ W tW b (zs.map fun z => z.cps.toList) (parts a fnd used (chop (W : Int) (seg x.cps.toList a b))) rr s.gens) ⟨_, eCD, rfl, _, rfl⟩ hCD0 hLC ?hln2 rfl F8 (fun q hq => N8 q (.tail _ hq))
          ⟨rfl, fp, vs, kk, fnd, used, a, _, _, rfl, hro1, hvs, by rw [List.drop_zero, hcz], hfl, by omega, rfl, rfl, rfl, rfl, rfl⟩ ?hE2 ?turn2 ?done2
        case hln2 => exact fun q hq => hcl q (.tail _ hq)
        case hE2 => passes_own
        case turn2 =>
          rintro j v2 m₂ nx2 h2' tk2 g2 own2 hv2 hoff2 hnx2 how2 hex2 ⟨rfl, fp2, vs2, kk2, fnd2, used2, a2, tu2, ta2, rfl, hro2, hvs2, hpa2, hfl2', hab2, e5, e6, e7, e8, e9⟩ F N
          clear F8 N8
          obtain ⟨z, tz, rfl, hz⟩ := StrsAre.item hcs j v2 (by simpa using hv2)
          have hzj : (zs.map fun z => z.cps.toList)[j]? = some z.cps.toList := by rw [List.getElem?_map, hz]; rfl
          have hzm : z.cps.toList ∈ chop (W : Int) (seg x.cps.toList a b) := hcz ▸ List.mem_of_getElem? hzj
          have hne := (chop_fit (W := (W : Int)) (by omega) _ _ hzm).1
          have hzl5 := hzsl z (List.mem_of_getElem? hz)
          have hvl2 : fnd2.length < 500 := by omega
          have F7 := (Fr.know (y := Str.ofString "fold") (Fr.know (y := Str.ofString "width") (Fr.know (y := Str.ofString "begin") (Fr.know (y := Str.ofString "used") (Fr.know (y := Str.ofString "found") F e5) e6) e7) e8) e9)
          obtain ⟨rr2, hrr2⟩ : ∃ rr2, rr2 = rr ++ own2 := ⟨_, rfl⟩
          have hro3 : OwnOff rr2 [fp2] := by
            intro q hq b hb
            rw [List.mem_singleton.mp hb]
            rw [hrr2] at hq
            rcases List.mem_append.mp hq with hq | hq
            · exact hro2 q hq
            · exact hoff2 q hq fp2 (.head _)
          have N6 : News s.heap _ h2' ((fp2, PySem.W.listOf vs2.toArray kk2) :: rr2) := fun q hq => by
            rw [hrr2] at hq
            exact N q hq
          clear F N hvs
          k_steps
          · rename Fr _ _ _ _ => F9
            rename News _ _ _ _ => N9
            rename _ ∧ _ ∧ AllLt _ _ => l9
            rename IntsAre _ (_ ++ _) => hI9
            exact GPost.fin (_ :: rr) F9 (fun q hq => by
            rcases List.mem_cons.mp (show q ∈ _ :: (rr ++ own2) from hq) with rfl | hq
            · exact N9 _ (by k_mem)
            · rw [← hrr2] at hq; exact N9 q (by repeat (first | exact hq | refine List.Mem.tail _ ?_))) (fun q hq => by
            rcases List.mem_cons.mp hq with rfl | hq
            · intro hb
              obtain ⟨o, ho⟩ := hex2 _ hb
              exact Nat.lt_irrefl _ (allLt_mem l9.2.2 _ (by rw [hrr2]; exact List.mem_append_right _ ho))
            · exact hnx2 q (.tail _ hq)) (PJ.next hzj hne hpa2 hfl2' hab2 (by rw [if_neg (show a2 ≠ 0 by omega)]) rfl (fun q hq => Nat.ne_of_lt (allLt_mem l9.2.2 _ (by rw [hrr2]; exact List.mem_append_left _ hq))) (by rw [asInts_push]; exact hI9) rfl rfl rfl rfl rfl)
          · rename Fr _ _ _ _ => F9
            rename News _ _ _ _ => N9
            rename _ ∧ _ ∧ AllLt _ _ => l9
            rename IntsAre _ (_ ++ _) => hI9
            exact GPost.fin (_ :: rr) F9 (fun q hq => by
            rcases List.mem_cons.mp (show q ∈ _ :: (rr ++ own2) from hq) with rfl | hq
            · exact N9 _ (by k_mem)
            · rw [← hrr2] at hq; exact N9 q (by repeat (first | exact hq | refine List.Mem.tail _ ?_))) (fun q hq => by
            rcases List.mem_cons.mp hq with rfl | hq
            · intro hb
              obtain ⟨o, ho⟩ := hex2 _ hb
              exact Nat.lt_irrefl _ (allLt_mem l9.2.2 _ (by rw [hrr2]; exact List.mem_append_right _ ho))
            · exact hnx2 q (.tail _ hq)) (PJ.next hzj hne hpa2 hfl2' hab2 (by rw [if_pos (show a2 = 0 by omega)]) rfl (fun q hq => Nat.ne_of_lt (allLt_mem l9.2.2 _ (by rw [hrr2]; exact List.mem_append_left _ hq))) (by rw [List.append_nil] at hI9; exact hI9) rfl rfl rfl rfl rfl)
        case done2 =>
          rintro m₂ nx2 h2' tk2 g2 hnx2 ⟨rfl, fp2, vs2, kk2, fnd2, used2, a2, tu2, ta2, rfl, hro2, hvs2, hpa2, hfl2', hab2, e5, e6, e7, e8, e9⟩ F N
          have hcsz : cvs.toArray.size = (zs.map fun z => z.cps.toList).length := by simp [hcs.len_eq]
          rw [hcsz, List.drop_length] at hpa2 hab2
          clear F8 N8
          k_steps
          rename Fr _ _ _ _ => F9
          rename News _ _ _ _ => N9
          exact GPost.fin (_ :: sn) F9 (fun q hq => N9 q (by rw [hrr]; exact hq)) (fun q hq => by
            rcases List.mem_cons.mp hq with rfl | hq
            · intro hb
              obtain ⟨o, ho⟩ := hex _ hb
              exact hro2 _ (by rw [hrr]; exact List.mem_append_right _ ho) rfl
            · exact hnx q (.tail _ hq)) (BJ.next hbr hWi (hst.trans hpa2.symm) (fun q hq b hb => by rw [List.mem_singleton.mp hb]; exact hro2 q (by rw [hrr]; exact List.mem_append_left _ hq)) hvs2 hwn hble (by simp at hab2; omega) e5 e6 e8 e9)
  case done =>
    rintro m₁ nx h tk g hnx ⟨rfl, p, fp, vs, kk, fnd, used, tu, rfl, ho, hvs, hwp, hp, hfl, hbr, e1, e2, e3, e4⟩ F N
    clear F8 N8
    have hvl : vs.length < 500 := by have := hvs.length; rw [asInts_length] at this; have hxl : x.cps.size < 500 := hlen; omega
    have F7 := (Fr.know (y := Str.ofString "fold") (Fr.know (y := Str.ofString "width") (Fr.know (y := Str.ofString "used") (Fr.know (y := Str.ofString "found") F e1) e2) e3) e4)
    have hN := N _ (.head _)
    clear F N
    k_steps
    rename Fr _ _ _ _ => F9
    dsimp only
    refine hret fp vs kk _ _ F9.keep hN.1 hN.2.2 ?_
    have hds : (ds.map Value.ref).toArray.size = Ws.length := by simp [H8.2.2.1]
    rw [hds, List.take_length] at hbr
    rw [hbr]; exact hvs

end Mine
end
section
open PySem PySem.W PySem.W.X PySem.Calls PyProof.Rows
namespace Mine
def bmObj (l : Addr) : Obj := { cls := .type "builtin_function_or_method", data := .fields #[.builtin "list.append", .ref l] }
theorem memNew {h₀ h : Heap} {a : Addr} {o : Obj} {chg news : List (Addr × Obj)} (D : Mem h₀ h chg ((a, o) :: news)) : h₀.get? a = none := (D.nw _ (.head _)).2
local macro_rules | `(tactic| x_close) => `(tactic| ((rename RM _ => rm'); refine rm'.out _ _ (memKeep (by assumption)) (memTop (by assumption)) (memNew (by assumption))))
theorem x_app {w : World} {s : Shared} {Q E : Value → Shared → Prop} {l : Addr} {xs : Array Value} {n : Nat} {tk0 : Tok} (K : (hd.heap_39 w.params).In s.heap)
   (h1 : s.heap.get? l = some { cls := .type "list", data := .seq xs n })
   (hret : ∀ a h', Keep s.heap h' → h'.get? a = some (bmObj l) → s.heap.get? a = none → Q (.ref a) { s with heap := h' }) :
   wpAny (model PySem.Challenge.rw_ey0021_01.row.prog w) Ax (call (.builtin "list.__getattribute__") [.ref l, .str (Str.ofString "append") tk0]) Q E s := by
  revert K; k_fill; intro K
  obtain ⟨h, g, d, tk, os⟩ := s
  have rm : RM _ := ⟨hret⟩
  clear hret
  x_run

theorem list_mod : isSubtype (.type "list") (.type "module") = pure false := by rw [isSubtype_type]; kernel_rfl
theorem type_mod : typeOf (.type "module") = pure (.type "type") := by with_unfolding_all rfl
section
variable {prog : Program} {w : World} {A : Around} {E : Value → Shared → Prop} {s : Shared}
theorem bm_check {l : Addr} {v : Value} {its : Array Value} {n : Nat} {Q : Unit → Shared → Prop} (ho : s.heap.get? l = some { cls := .type "list", data := .seq its n }) (h : Q () s) :
    wpAny (model prog w) A (checkBoundCall "list.append" ⟨[.ref l, v], []⟩) Q E s := by
  have hT : s.TypeIs (.ref l) "list" := ⟨_, ho, rfl⟩
  obtain ⟨hh, g, d, tk, os⟩ := s
  unfold checkBoundCall
  have f1 := list_mod
  have f2 : isSubtype (.type "list") (.type "type") = pure false := by rw [isSubtype_type]; kernel_rfl
  repeat (any_goals (first | assumption | wp_step))
theorem bm_call {l q : Addr} {its : Array Value} {n : Nat} {x : Value} {Q : Value → Shared → Prop} (ho : s.heap.get? l = some { cls := .type "list", data := .seq its n }) (hq : s.heap.get? q = some (bmObj l))
    (hsz : its.size ≤ sizeLine) (h : ∀ h', Heap.SameBut l s.heap h' → h'.get? l = some { cls := .type "list", data := .seq (its.push x) (n + 1) } → Q .none { s with heap := h' }) :
    wpAny (model prog w) A (call (.ref q) [x]) Q E s := by
  refine wpAny_call (codeAny_of_tree ?_)
  show wpAny _ _ (callAny (.ref q) ⟨[x], []⟩) _ _ s
  refine wpAny_bind (wpAny_load hq ?_)
  show wpAny _ _ (checkBoundCall "list.append" ⟨[.ref l, x], []⟩ >>= fun _ => again (.builtin "list.append" ⟨[.ref l, x], []⟩)) _ _ s
  refine wpAny_bind (bm_check ho (wpAny_pure ⟨plainId_quiet (by decide +kernel) _, ?_⟩))
  refine codeAny_builtin entry_list_append ?_
  show wpAny _ _ (updateSeq l (·.push x) >>= fun _ => ret .none) _ _ s
  refine wpAny_bind ?_
  refine wpAny_updateSeq ho rfl (wpAny_pure (h _ (Heap.SameBut.update ..) ?_))
  rw [Heap.get?_update_self _ ho (by rw [mapSeq_push]; rfl), mapSeq_push]
end
theorem bm_get {w : World} {A : Around} {s : Shared} {Q E : Value → Shared → Prop} {l : Addr} {xs : Array Value} {n : Nat} (K : (hd.heap_39 w.params).In s.heap) (hh : A.handled = none) (hd : A.depth ≤ 970) (hu : A.units ≤ 9870)
   (h1 : s.heap.get? l = some { cls := .type "list", data := .seq xs n })
   (hret : ∀ a h' tk, Keep s.heap h' → h'.get? a = some (bmObj l) → s.heap.get? a = none → Q (.ref a) { s with heap := h', toks := tk }) :
   wpAny (model PySem.Challenge.rw_ey0021_01.row.prog w) A (getAttr (.ref l) (Str.ofString "append") true) Q E s := by
  have hT : s.TypeIs (.ref l) "list" := ⟨_, h1, rfl⟩
  have f2 := F.slot_list_getattribute.lookup
  have f3 := F.slot_list_getattribute.bind (.ref l)
  obtain ⟨h, g, d, tk, os⟩ := s
  have key : ∀ (tk0 : Tok) (Q' E' : Value → Shared → Prop), (∀ a h', Keep h h' → h'.get? a = some (bmObj l) → h.get? a = none → Q' (.ref a) ⟨h', g, d, tk + 1, os⟩) →
      wpAny (model PySem.Challenge.rw_ey0021_01.row.prog w) A (call (.builtin "list.__getattribute__") ([.ref l] ++ [.str (Str.ofString "append") tk0])) Q' E' ⟨h, g, d, tk + 1, os⟩ := fun tk0 Q' E' hq =>
    wk hh (by omega) (by omega) (x_app K h1 fun a h' k e z => hq a h' k e z)
  repeat (any_goals (first | assumption | (with_reducible refine key _ _ _ fun a h' k e z => ?_) | wp_step))
  exact hret a h' _ k e z
section
variable {prog : Program} {w : World} {A : Around} {E : Value → Shared → Prop} {s : Shared} {h₀ : Heap} {L : Addr} {m : Str → Option Value}
theorem bm_callK {l q : Addr} {its : Array Value} {n : Nat} {x : Value} {news news' : List (Addr × Obj)} {Q : Value → Shared → Prop} (F : Fr h₀ L s.heap m) (N : News h₀ L s.heap news) (hq : (q, bmObj l) ∈ news) (U : Upd l (PySem.W.listOf its n) (PySem.W.listOf (its.push x) (n + 1)) news news')
    (h : ∀ h', Fr h₀ L h' m → News h₀ L h' news' → Q .none { s with heap := h' }) (hsz : its.size ≤ sizeLine) : wpAny (model prog w) A (call (.ref q) [x]) Q E s := by
  obtain ⟨pre, post, rfl, rfl, a, b⟩ := U.split
  have z := N (l, PySem.W.listOf its n) (List.mem_append.mpr (.inr (.head _)))
  exact bm_call z.1 (N _ hq).1 hsz fun h' hs ho' => h h' (F.change hs z.2.1 z.2.2) (news_set N a b hs ho')
def BmAt (q l : Addr) (h : Heap) : Prop := h.get? q = some (bmObj l)
theorem callWith_bmF {M : Model} {pos : Pos} {q l : Addr} {first : List Value} {args : List (Bool × Sem Value)} {Q : Value → Shared → Prop} (hplain : args.any (·.1) = false)
    (h : wpAny M A (evalArgs (.ref q) true args []) (fun x s₁ => BmAt q l s₁.heap ∧ wpAny M A (call (.ref q) (first ++ x.pos) x.kw) Q E s₁) E s) : wpAny M A (callWith pos (.ref q) first args []) Q E s := by
  unfold callWith
  refine wpAny_bind (wpAny_holding (wpAny_mono h (fun x s₁ h₁ => wpAny_bind (wpAny_standAt ?_)) fun _ _ x => x))
  obtain ⟨ho, hcall⟩ := h₁
  simp only [hplain, List.any_nil, Bool.or_false]
  refine wpAny_bind (m := keeperOf (.ref q)) ?_
  unfold keeperOf
  refine wpAny_bind (wpAny_load ho ?_)
  simp only [bmObj, show (Value.type "builtin_function_or_method" != Value.type "method") = true by decide, show (Value.type "builtin_function_or_method" == Value.type "builtin_function_or_method" || Value.type "builtin_function_or_method" == Value.type "method-wrapper") = true by decide, if_true]
  refine wpAny_pure ?_
  exact wpAny_bind (wpAny_mono hcall (fun r s₂ hr => wpAny_bind (wpAny_holding (wpAny_point (wpAny_pure hr)))) fun _ _ x => x)
theorem callWith_bm {M : Model} {pos : Pos} {q l : Addr} {first : List Value} {env : Env} {e : Expr} {rest : List Expr} {news : List (Addr × Obj)} {Q : Value → Shared → Prop} (_N : News h₀ L s.heap news) (_hm : (q, bmObj l) ∈ news)
    (h : wpAny M A (spliced (backTo pos (starEach (e :: rest) env))) (fun vs s₁ => BmAt q l s₁.heap ∧ wpAny M A (call (.ref q) (first ++ vs)) Q E s₁) E s)
    (he : starEach (e :: rest) env = (false, eval e env) :: starEach rest env := by rfl) (hplain : (backTo pos (starEach rest env)).any (·.1) = false := by rfl) :
    wpAny M A (callWith pos (.ref q) first (backTo pos (starEach (e :: rest) env)) []) Q E s := by
  rw [he] at h ⊢
  refine callWith_bmF (l := l) (by show (false || (backTo pos (starEach rest env)).any (·.1)) = false; rw [hplain]; rfl) ?_
  exact evalArgs_plain h
end
end Mine
end
section
open PySem PySem.W PySem.W.X PySem.Calls PyProof.Rows
namespace Mine
local macro_rules | `(tactic| k_room) => `(tactic| ((try simp only [depth_under_make, depth_under_kw, depth_in1, depth_deeper, depth_caller]); (simp only [recursionLimit] at *); omega))
local macro_rules | `(tactic| cell_enter) => `(tactic| first
  | (refine' pEnter [227] ?k1 ?k2 ?k6 ?k7 ?k8 ?k9 ?kB ?_ ?c2 ?c3 ?c4 ?c5; (case k1 => k_asm); (case k2 => exact TopRead.nolimit (by assumption)); (case k6 => k_is); (case k7 => k_is); (case k8 => k_room); (case k9 => first | exact BindsTo.of_eq rfl | exact binds_K (by k_in) rfl (by k_is) rfl rfl rfl | fail "no rule for these arguments"); (case c5 => decide); (case kB => exact locs rfl); (case c2 => exact rfl); (case c3 => exact rfl); (case c4 => exact rfl); k_whole; intro h₁ L₁ hL₁ F₁ K₁; (have N₁ := newsNil F₁); (try dsimp only); (try k_fold))
  | (refine' pEnterC [227] ?k1 ?k2 ?k6 ?k7 ?k8 ?k9 ?kB ?kD ?_ ?c2 ?c3 ?c4; (case k1 => k_asm); (case k2 => exact TopRead.nolimit (by assumption)); (case k6 => k_is); (case k7 => k_is); (case k8 => k_room); (case k9 => first | exact BindsTo.of_eq rfl | exact binds_K (by k_in) rfl (by k_is) rfl rfl rfl | fail "no rule for these arguments"); (case kB => exact rfl); (case kD => decide +kernel); (case c2 => exact rfl); (case c3 => exact rfl); (case c4 => exact rfl); k_whole; intro h₁ L₁ tk₁ cells₁ hL₁ F₁ N₁ Y₁ K₁ C₁; k_cells Y₁; (try simp only [List.cons_append, List.nil_append] at N₁); (try dsimp only); (try k_fold)))

local macro_rules | `(tactic| walk_at "exec For Name Call cons nil") => `(tactic| (k_here; (with_reducible show wpAny _ _ (exec (Stmt.For _ _ _ _ _) _) _ _ _); (refine' For_G ?_ (fun _ => rfl))))
local macro_rules | `(tactic| walk_at "exec For Name Call") => `(tactic| (k_here; (with_reducible show wpAny _ _ (exec (Stmt.For _ _ _ _ _) _) _ _ _); (refine' For_G ?_ (fun _ => rfl))))
local macro_rules | `(tactic| walk_at "exec For") => `(tactic| (k_here; (with_reducible show wpAny _ _ (exec (Stmt.For _ _ _ _ _) _) _ _ _); (refine' For_G ?_ (fun _ => rfl))))
theorem px_next {goal : Prop} {h₀ h h' : Heap} {L : Addr} {nx : List (Addr × Obj)} {g : Obj → List (Addr × Obj)} {ot ot' : Obj} (N : News h₀ L h nx) (U : UpdF 227 ot nx g) (k : KeepT h h') (e : h'.get? 227 = some ot') (c : News h₀ L h' (g ot') → goal) : goal := c (News.upd N U k e)
theorem letGo_gen {prog : Program} {w : World} {A : Around} {E : Value → Shared → Prop} {target : Expr} {a : Addr} {g : Nat} {v : Value} {Q' : Unit → Shared → Prop} {s' : Shared} (hg : s'.heap.IsGen a g) (h : Q' () s') :
    wpAny (model prog w) A (letOwnedTupleGo target (.ref a) v) Q' E s' := by
  obtain ⟨o, nm, qn, ho, hc, hd, _⟩ := hg
  unfold letOwnedTupleGo
  cases target <;> first
    | exact wpAny_pure h
    | (cases v <;> first
        | exact wpAny_pure h
        | (refine wpAny_bind (wpAny_load ho ?_)
           rw [hc, hd]
           exact wpAny_pure h))
/-- what stands at 227, over a base without it -/
def TabEnt (base : Heap) (o : Obj) : Prop := ∀ h', Keep base h' → h'.get? 227 = some o → TabOk h'
theorem tab_ent {h₁ h : Heap} (t₁ : TabOk h₁) (t : TabOk h) (k : Keep (hideAll h₁ [227]) h) : ∃ o, h.get? 227 = some o ∧ TabEnt (hideAll h₁ [227]) o := by
  obtain ⟨⟨ps1, ⟨o1, vs1, file1, tf1, flags1, tg1, inF1, text1, tt1, op1, a1, _⟩, _⟩, ob1, b1, _⟩ := t₁
  obtain ⟨⟨ps, ⟨o, vs, file, tf, flags, tg, inF, text, tt, op, c1, c2, c3, c4, c5, c6, c7, c8, c9⟩, ⟨⟨o', vs', d1, d2⟩, d3⟩⟩, ob, e1, e2⟩ := t
  have k231 : (hideAll h₁ [227]).get? 231 = some o := by
    have h1 : (hideAll h₁ [227]).get? 231 = some o1 := h0T_get (by decide) a1
    have h2 := k _ _ h1
    rw [c1] at h2; cases h2; exact h1
  have k4 : (hideAll h₁ [227]).get? 4 = some ob := by
    have h1 : (hideAll h₁ [227]).get? 4 = some ob1 := h0T_get (by decide) b1
    have h2 := k _ _ h1
    rw [e1] at h2; cases h2; exact h1
  rw [c1] at d1
  cases d1
  have hop : op = { cls := .none, data := .fields ps } := by rw [c8] at d3; exact Option.some.inj d3
  refine ⟨op, c8, fun h' kk e => ?_⟩
  exact ⟨⟨ps, ⟨o, vs, file, tf, flags, tg, inF, text, tt, op, kk _ _ k231, c2, c3, c4, c5, c6, c7, e, c9⟩, ⟨⟨o, vs', kk _ _ k231, d2⟩, hop ▸ e⟩⟩, ob, kk _ _ k4, e2⟩
local macro_rules | `(tactic| walk_at "callWith ref") => `(tactic| (k_here; (with_reducible show wpAny _ _ (callWith _ (Value.ref _) _ (backTo _ (starEach (_ :: _) _)) []) _ _ _); k_dflt (refine' callWith_bm ?bmN ?bmM ?_; (case bmN => k_asm); (case bmM => k_mem); k_whole)))
local macro_rules | `(tactic| walk_at "And") => `(tactic| ((with_reducible show BmAt _ _ _ ∧ _); k_dflt (refine ⟨News.get (by k_asm) (by k_mem), ?_⟩); (try dsimp only [List.nil_append, List.cons_append])))
local macro_rules | `(tactic| walk_at "call ref") => `(tactic| (k_here; (with_reducible show wpAny _ _ (call (Value.ref _) [Value.int _ _]) _ _ _); k_dflt (refine' bm_callK ?k1 ?k2 ?k4 ?k3 ?_ ?z; (case k1 => k_asm); (case k2 => k_asm); (case k4 => k_mem); (case k3 => k_upd); (case z => ((try simp only [List.size_toArray, List.length_map]); (have e9 : (1000 : Nat) ≤ sizeLine := by decide); omega)); k_whole); intro h' F' N'; (try k_sweep)))
local macro_rules | `(tactic| walk_at "call ref") => `(tactic| (k_here; (with_reducible show wpAny _ _ (call (Value.ref 225) [Value.str _ _]) _ _ _); (rename Fr _ _ _ _ => F9); (rename News _ _ _ _ => N9); (rename TopRead _ _ _ _ _ => T9); (rename Frag.In _ _ => X9); (rename TabEnt _ _ => te9); (rename TabOk _ ∧ 0 = 0 => tt9); (rename AllBare _ => B9); (rename GX _ _ => G8); (rename Heap.get? _ 227 = none => z9); (refine' c_celllen _ _ _ _ _ _ _ _ _ _ _ _ (Frag.In.keeps X9 (Fr.keep F9)) (TopRead.keeps T9 (Fr.keep F9)) (te9 _ (Fr.keep F9) (News.get N9 ?m)) ?d ?u ?p B9 ?_; (case m => k_mem); (case d => (try simp only [depth_deeper]); omega); (case u => (try simp only [units_deeper]); omega); (case p => assumption)); (intro v9 h9 tk9 g9 K9 t9' G9 R9); (have F9' := frT z9 (L_ne X9 F9) F9 K9); (have B9' := GX.bare G9 B9); (have G9' := GX.trans G8 G9); (obtain ⟨ot9, e9', te9'⟩ := tab_ent tt9.1 t9' (Fr.keep F9')); (refine' px_next N9 ?U K9 e9' ?_; (case U => k_updF)); intro N9'; (try dsimp only at N9'); clear F9 N9 B9 G8 G9 te9 t9'; (obtain ⟨t8, e8⟩ := R9); (subst e8); (try dsimp only)))
def DJ (x : Str) (W : Nat) (tW : Tok) (fold : Bool) (Ws : List (Nat × Nat)) (fp q : Addr) (base : Heap) (g₀ : Array GenState) (i : Nat) (m : Str → Option Value) (nx : List (Addr × Obj)) (g : Array GenState) : Prop :=
  ∃ (j p : Nat) (vs : List Value) (k : Nat) (fnd : List Nat) (used : Int) (ot : Obj) (tu : Tok), i + j = Ws.length ∧ nx = [(q, bmObj fp), (fp, PySem.W.listOf vs.toArray k), (227, ot)] ∧ TabEnt base ot ∧ IntsAre vs (asInts fnd) ∧ WordsAt x.cps p (Ws.drop j) ∧ p ≤ x.cps.size ∧ fnd.length ≤ p ∧
    brks x.cps.toList (W : Int) fold (Ws.take j) ([], 0) = (fnd, used) ∧ GX g₀ g ∧ m (Str.ofString "append") = some (.ref q) ∧ m (Str.ofString "break_positions") = some (.ref fp) ∧ m (Str.ofString "cell_offset") = some (.int used tu) ∧ m (Str.ofString "_cell_len") = some (.ref 225) ∧
    m (Str.ofString "width") = some (.int W tW) ∧ m (Str.ofString "fold") = some (.bool fold)
theorem DJ.next {x : Str} {W : Nat} {tW : Tok} {fold : Bool} {Ws : List (Nat × Nat)} {fp q : Addr} {base : Heap} {g₀ g : Array GenState} {i j a b : Nat} {m : Str → Option Value} {vs : List Value} {k : Nat} {fnd fnd' : List Nat} {used used' : Int} {ot : Obj} {tu : Tok}
    (hij : i + 1 + j = Ws.length) (hb : brks x.cps.toList (W : Int) fold (Ws.take j) ([], 0) = (fnd, used)) (hW : Ws[j]? = some (a, b)) (hst : brkStep x.cps.toList (W : Int) fold a b (fnd, used) = (fnd', used')) (te : TabEnt base ot) (hv : IntsAre vs (asInts fnd')) (hw : WordsAt x.cps b (Ws.drop (j + 1))) (hb1 : b ≤ x.cps.size) (hl : fnd'.length ≤ b) (hg : GX g₀ g)
    (e1 : m (Str.ofString "append") = some (.ref q)) (e2 : m (Str.ofString "break_positions") = some (.ref fp)) (e3 : m (Str.ofString "cell_offset") = some (.int used' tu)) (e4 : m (Str.ofString "_cell_len") = some (.ref 225)) (e5 : m (Str.ofString "width") = some (.int W tW)) (e6 : m (Str.ofString "fold") = some (.bool fold)) :
    DJ x W tW fold Ws fp q base g₀ i m [(q, bmObj fp), (fp, PySem.W.listOf vs.toArray k), (227, ot)] g :=
  ⟨j + 1, b, vs, k, fnd', used', ot, tu, by omega, rfl, te, hv, hw, hb1, hl, by rw [brks_next hW, hb, hst], hg, e1, e2, e3, e4, e5, e6⟩
theorem news_off {h₀ h : Heap} {L b : Addr} {nx : List (Addr × Obj)} (N : News h₀ L h nx) (z : h.get? b = none) : ∀ p ∈ nx, p.1 ≠ b := fun p hp e => by
  have h1 := (N p hp).1
  rw [e, z] at h1; cases h1
theorem GX.size_le {a b : Array GenState} (x : GX a b) : a.size ≤ b.size := by
  rcases Nat.eq_zero_or_pos a.size with h | h
  · omega
  · have h1 := x.old (a.size - 1) _ (Array.getElem?_eq_getElem (by omega : a.size - 1 < a.size))
    have h2 := (Array.getElem?_eq_some_iff.mp h1).1
    omega
/-- the loop over loop_last, i parts before the end -/
def EJ (W : Nat) (tW : Tok) (b : Nat) (zl : List (List Nat)) (res : List Nat × Int) (fp q : Addr) (own : List (Addr × Obj)) (base : Heap) (g₀ : Array GenState) (i : Nat) (m : Str → Option Value) (nx : List (Addr × Obj)) (g : Array GenState) : Prop :=
  ∃ (j a : Nat) (vs : List Value) (k : Nat) (fnd : List Nat) (used : Int) (ot : Obj) (tu ta : Tok), i + j = zl.length ∧ nx = (fp, PySem.W.listOf vs.toArray k) :: (227, ot) :: (q, bmObj fp) :: own ∧ TabEnt base ot ∧ IntsAre vs (asInts fnd) ∧
    (1 ≤ i → parts a fnd used (zl.drop j) = res ∧ fnd.length ≤ a ∧ a + (zl.drop j).flatten.length = b) ∧ (i = 0 → (fnd, used) = res ∧ fnd.length ≤ b) ∧ GX g₀ g ∧
    m (Str.ofString "append") = some (.ref q) ∧ m (Str.ofString "break_positions") = some (.ref fp) ∧ m (Str.ofString "cell_offset") = some (.int used tu) ∧ m (Str.ofString "start") = some (.int a ta) ∧ m (Str.ofString "_cell_len") = some (.ref 225) ∧ m (Str.ofString "width") = some (.int W tW) ∧ m (Str.ofString "fold") = some (.bool true)
theorem parts_any {a : Nat} {f : List Nat} {u v : Int} : ∀ {l : List (List Nat)}, l ≠ [] → parts a f u l = parts a f v l
  | [], h => absurd rfl h
  | _ :: _, _ => rfl
section
variable {W : Nat} {tW : Tok} {b : Nat} {zl : List (List Nat)} {res : List Nat × Int} {fp q : Addr} {own : List (Addr × Obj)} {base : Heap} {g₀ g : Array GenState} {i j a k : Nat} {m : Str → Option Value} {vs : List Value} {fnd fnd' : List Nat} {used sz : Int} {ot : Obj} {tu ta : Tok} {z : Str}
theorem EJ.mid (hij : i + 1 + j = zl.length) (hi : 1 ≤ i) (hz : zl[j]? = some z.cps.toList) (hne : z.cps.toList ≠ []) (hp : parts a fnd used (zl.drop j) = res ∧ fnd.length ≤ a ∧ a + (zl.drop j).flatten.length = b) (hf : fnd' = if a = 0 then fnd else fnd ++ [a]) (te : TabEnt base ot) (hv : IntsAre vs (asInts fnd')) (hg : GX g₀ g)
    (e1 : m (Str.ofString "append") = some (.ref q)) (e2 : m (Str.ofString "break_positions") = some (.ref fp)) (e3 : m (Str.ofString "cell_offset") = some (.int used tu)) (e4 : m (Str.ofString "start") = some (.int ((a : Int) + (z.length : Int)) ta)) (e5 : m (Str.ofString "_cell_len") = some (.ref 225)) (e6 : m (Str.ofString "width") = some (.int W tW)) (e7 : m (Str.ofString "fold") = some (.bool true)) :
    EJ W tW b zl res fp q own base g₀ i m ((fp, PySem.W.listOf vs.toArray k) :: (227, ot) :: (q, bmObj fp) :: own) g := by
  obtain ⟨hp1, hp2, hp3⟩ := hp
  have hzl : z.cps.toList.length = z.length := by simp [Str.length]
  have hpos : 1 ≤ z.cps.toList.length := List.length_pos_iff.mpr hne
  have h1 := flat_at hz
  have hd : zl.drop (j + 1) ≠ [] := fun e => by have := List.length_drop (i := j + 1) (l := zl); rw [e, List.length_nil] at this; omega
  refine ⟨j + 1, a + z.length, vs, k, fnd', used, ot, tu, ta, by omega, rfl, te, hv, fun _ => ⟨?_, ?_, by omega⟩, fun h => by omega, hg, e1, e2, e3, ?_, e5, e6, e7⟩
  · rw [← hp1, parts_at hz, hzl, hf]; exact parts_any hd
  · rw [hf]
    split
    · omega
    · rw [List.length_append, List.length_singleton]; omega
  · rw [e4, Int.natCast_add]
theorem EJ.last (hij : 0 + 1 + j = zl.length) (hz : zl[j]? = some z.cps.toList) (hne : z.cps.toList ≠ []) (hp : parts a fnd used (zl.drop j) = res ∧ fnd.length ≤ a ∧ a + (zl.drop j).flatten.length = b) (hf : fnd' = if a = 0 then fnd else fnd ++ [a]) (hs : sz = sizeL z.cps.toList) (te : TabEnt base ot) (hv : IntsAre vs (asInts fnd')) (hg : GX g₀ g)
    (e1 : m (Str.ofString "append") = some (.ref q)) (e2 : m (Str.ofString "break_positions") = some (.ref fp)) (e3 : m (Str.ofString "cell_offset") = some (.int sz tu)) (e4 : m (Str.ofString "start") = some (.int (a : Int) ta)) (e5 : m (Str.ofString "_cell_len") = some (.ref 225)) (e6 : m (Str.ofString "width") = some (.int W tW)) (e7 : m (Str.ofString "fold") = some (.bool true)) :
    EJ W tW b zl res fp q own base g₀ 0 m ((fp, PySem.W.listOf vs.toArray k) :: (227, ot) :: (q, bmObj fp) :: own) g := by
  obtain ⟨hp1, hp2, hp3⟩ := hp
  have hzl : z.cps.toList.length = z.length := by simp [Str.length]
  have hpos : 1 ≤ z.cps.toList.length := List.length_pos_iff.mpr hne
  have h1 := flat_at hz
  have hd : zl.drop (j + 1) = [] := List.drop_of_length_le (by omega)
  refine ⟨j + 1, a, vs, k, fnd', sz, ot, tu, ta, by omega, rfl, te, hv, fun h => by omega, fun _ => ⟨?_, ?_⟩, hg, e1, e2, e3, e4, e5, e6, e7⟩
  · rw [← hp1, parts_at hz, hd, hf, hs]; rfl
  · rw [hf]
    split
    · omega
    · rw [List.length_append, List.length_singleton]; omega
end
theorem rst_ok {z : Str} (h : okx z) : okx (Txt.rstrip z) := fun c hc => by
  rw [rst_list h] at hc
  obtain ⟨t, e, _⟩ := rstL_pre z.cps.toList
  exact h c (by rw [e]; exact List.mem_append_left _ hc)
theorem c_words1 (w : World) (mg mb) (x : Str) (t : Tok) (W : List (Nat × Nat)) (hW : WordsAt x.cps 0 W) (hx : okx x) (hlen : x.cps.size < 1000) (dp : Nat) (fr : Option (List Env)) (gd : Option (List Code)) (un : Nat) (s : Shared) (Q E : Value → Shared → Prop)
    (base : Heap) (hbase : Keep base s.heap) (hbsz : base.objs.size ≤ s.heap.objs.size) (hKb : (hd.heap_39 w.params).In base) (hTb : TopRead hd.view_39 LP mg mb base)
    (hdp : dp + 4 < 900) (hun : un + 80 < 9000)
    (hret : ∀ a C g h' tk gs, Keep s.heap h' → gs.bare = true → g = s.gens.size → GAt PySem.Challenge.rw_ey0021_01.row.prog w (AA dp fr gd un) a g [C] base (WIt x W) W.length { heap := h', gens := s.gens.push gs, drawn := s.drawn, toks := tk, os := s.os } → s.heap.get? a = none → s.heap.get? C = none → a ≠ C → s.heap.objs.size ≤ C →
      Q (.ref a) { heap := h', gens := s.gens.push gs, drawn := s.drawn, toks := tk, os := s.os }) :
    wpAny (model PySem.Challenge.rw_ey0021_01.row.prog w) (AA dp fr gd un) (call (.ref 258) [.str x t]) Q E s :=
  c_words w mg mb x t W hW hx hlen dp fr gd un s Q E (AA dp fr gd un) rfl base hbase hbsz hKb hTb hdp hun hret
theorem c_last1 (w : World) (mg mb) (l : Addr) (n₀ : Nat) (vs : List Value) (zs : List Str) (hvz : StrsAre vs zs) (hlen : zs.length < 1000) (dp : Nat) (fr : Option (List Env)) (gd : Option (List Code)) (un : Nat) (s : Shared) (Q E : Value → Shared → Prop)
    (base : Heap) (hbase : Keep base s.heap) (hbsz : base.objs.size ≤ s.heap.objs.size) (hKb : (hd.heap_39 w.params).In base) (hTb : TopRead hd.view_39 LP mg mb base)
    (hl : s.heap.get? l = some { cls := .type "list", data := .seq vs.toArray n₀ }) (hlb : base.get? l = none)
    (hdp : dp + 4 < 900) (hun : un + 80 < 9000)
    (hret : ∀ a C g h' tk gs, Keep s.heap h' → gs.bare = true → g = s.gens.size → GAt PySem.Challenge.rw_ey0021_01.row.prog w (AA dp fr gd un) a g [C, l] base (LIt zs) zs.length { heap := h', gens := s.gens.push gs, drawn := s.drawn, toks := tk, os := s.os } → s.heap.get? a = none → s.heap.get? C = none → a ≠ C → s.heap.objs.size ≤ C →
      Q (.ref a) { heap := h', gens := s.gens.push gs, drawn := s.drawn, toks := tk, os := s.os }) :
    wpAny (model PySem.Challenge.rw_ey0021_01.row.prog w) (AA dp fr gd un) (call (.ref 45) [.ref l]) Q E s :=
  c_last w mg mb l n₀ vs zs hvz hlen dp fr gd un s Q E (AA dp fr gd un) rfl base hbase hbsz hKb hTb hl hlb hdp hun hret
theorem pEnter2 {w : World} {A : Around} {s : Shared} {Q E : Value → Shared → Prop} {name qual : Str} {params : Arguments} {body : List Stmt} {scope : Scope} {dV kV doc pm cdv ct oc : Value} {an od : Option Addr} {osl : Array (Option Value)} {f : Addr} {args args2 : List Value} {c : Prop} {binds : List (Str × Value)} (adr : List Addr)
    (X : (hd.heap_39 w.params).In s.heap) (hlim : s.heap.NoLimit) (ho : (hd.heap_39 w.params).lookup f = some ⟨oc, od, .func (fnOf name qual params body scope dV kV doc pm an cdv ct), osl⟩) (hcd : codeIn (hd.heap_39 w.params) cdv qual = true) (hroom : A.depth < recursionLimit)
    (hbind : BindsTo s (fnOf name qual params body scope dV kV doc pm an cdv ct) ⟨args, []⟩ binds) (hbind2 : c → BindsTo s (fnOf name qual params body scope dV kV doc pm an cdv ct) ⟨args2, []⟩ binds) (hloc : ∀ y ∈ binds, scope.names.lookup y.1 = some .local)
    (h : ∀ h₁ L, s.heap.objs.size ≤ L → Fr (hideAll s.heap adr) L h₁ (fun y => binds.reverse.lookup y) → Keep s.heap h₁ →
      wpAny (model PySem.Challenge.rw_ey0021_01.row.prog w) (A.deeper (envOf qual scope L f cdv)) (execs body (envOf qual scope L f cdv))
        (fun fl s' => Q (match fl with | .ret v => v | _ => .none) s')
        (fun e s' => wpAny (model PySem.Challenge.rw_ey0021_01.row.prog w) (A.deeper (envOf qual scope L f cdv)) (leaving (envOf qual scope L f cdv) e) (fun _ s'' => E e s'') (fun e' s'' => E e' s'') s')
        { s with heap := h₁, toks := s.toks + binds.length })
    (hco : scope.isCoroutine = false) (hgen : scope.isGenerator = false) (hk : scope.kind = .function)
    (hcell : ∀ x ∈ scope.names, x.2 ≠ .cell) : wpAny (model PySem.Challenge.rw_ey0021_01.row.prog w) A (call (.ref f) args) Q E s ∧ (c → wpAny (model PySem.Challenge.rw_ey0021_01.row.prog w) A (call (.ref f) args2) Q E s) :=
  ⟨wpAny_call (pEnter adr X hlim ho hcd hroom hbind hloc h hco hgen hk hcell), fun hc => wpAny_call (pEnter adr X hlim ho hcd hroom (hbind2 hc) hloc h hco hgen hk hcell)⟩
theorem c_div (w : World) (mg mb) (x : Str) (t : Tok) (Ws : List (Nat × Nat)) (hw : WordsAt x.cps 0 Ws) (W : Nat) (tW : Tok) (fold : Bool) (dp : Nat) (fr : Option (List Env)) (gd : Option (List Code)) (un : Nat) (s : Shared) (Q E : Value → Shared → Prop)
    (hK0 : (hd.heap_39 w.params).In s.heap) (hT0 : TopRead hd.view_39 LP mg mb s.heap) (hTab : TabOk s.heap) (hdp : dp + 60 < 900) (hun : un + 1200 < 9000) (hg : AllBare s.gens) (hok : okx x) (hlen : x.length < 500) (hW : 2 ≤ W) (hW2 : W < 100)
    (hret : ∀ D vs n h' tk' g', KeepT s.heap h' → TabOk h' → GX s.gens g' → h'.get? D = some (PySem.W.listOf vs.toArray n) → s.heap.get? D = none → IntsAre vs (asInts (brks x.cps.toList (W : Int) fold Ws ([], 0)).1) → Q (.ref D) { heap := h', gens := g', drawn := s.drawn, toks := tk', os := s.os }) :
    wpAny (model PySem.Challenge.rw_ey0021_01.row.prog w) (AA dp fr gd un) (call (.ref 266) [.str x t, .int W tW, .bool fold]) Q E s ∧ (fold = true → wpAny (model PySem.Challenge.rw_ey0021_01.row.prog w) (AA dp fr gd un) (call (.ref 266) [.str x t, .int W tW]) Q E s) := by
  revert hK0; k_fill; intro hK0
  k_dflt (refine' pEnter2 (binds := [(Str.ofString "text", .str x t), (Str.ofString "width", .int W tW), (Str.ofString "fold", .bool fold)]) [227] ?k1 ?k2 ?k6 ?k7 ?k8 ?k9 ?k10 ?kB ?_ ?c2 ?c3 ?c4 ?c5)
  case k1 => k_asm
  case k2 => exact TopRead.nolimit (by assumption)
  case k6 => k_dflt k_is
  case k7 => k_dflt k_is
  case k8 => k_room
  case k9 => with_unfolding_all exact binds_K (by k_in) rfl (by k_is) rfl rfl (by kernel_rfl)
  case k10 =>
    intro hfo
    subst hfo
    with_unfolding_all exact binds_K (by k_in) rfl (by k_is) rfl rfl (by kernel_rfl)
  case c5 => decide
  case kB => k_dflt (exact locs rfl)
  case c2 => exact rfl
  case c3 => exact rfl
  case c4 => exact rfl
  k_whole
  intro hh1 L₁ hL9 F₁ K9
  (try dsimp only)
  (try k_fold)
  have hK : (hd.heap_39 w.params).In (hideAll s.heap [227]) := in_h0T hK0
  have hT : TopRead hd.view_39 LP mg mb (hideAll s.heap [227]) := top_h0T hT0
  have hz : (hideAll s.heap [227]).get? 227 = none := hideAll_none [227] (.head _)
  rename Fr _ _ _ _ => F9
  have hTT : TabOk s.heap ∧ 0 = 0 := ⟨hTab, rfl⟩
  obtain ⟨ot, eot, te⟩ := tab_ent hTab (TabOk.keeps hTab K9) F9.keep
  have N1 : News _ _ _ [(227, ot)] := fun p hp => by
    rw [List.mem_singleton.mp hp]
    exact ⟨eot, (L_ne hK F9).symm, hz⟩
  have h227 : (227 : Nat) < s.heap.objs.size := let ⟨⟨_, _, _, tt⟩, _⟩ := hTab; Heap.lt_size tt
  clear hT0 K9 hTab
  k_steps
  rename Fr _ _ _ _ => F9
  rename News _ _ _ _ => N9
  rename_i fp _ lf _
  refine bm_get (hK.keeps F9.keep) rfl (by show dp + 1 ≤ 970; omega) (by (try simp only [units_deeper]); omega) (N9 _ (.head _)).1 ?_
  intro q h7 tk7 K7 e7 z7
  have hqf : @Ne Nat q fp := fun e => by
    have h1 := (N9 _ (.head _)).1
    rw [← e, z7] at h1; cases h1
  have hq2 : @Ne Nat q 227 := fun e => by
    have h1 := (N9 _ (.tail _ (.head _))).1
    rw [← e, z7] at h1; cases h1
  have hf2 : @Ne Nat 227 fp := Nat.ne_of_lt lf
  have N7 := News.fresh F9 N9 K7 z7 e7
  have F7 := Fr.keeps F9 K7
  clear F9 N9
  k_steps
  rename Fr _ _ _ _ => F9
  rename News _ _ _ _ => N9
  rename TopRead _ _ _ _ _ => hT
  refine c_words1 w mg mb x t Ws hw hok (by have : x.length = x.cps.size := rfl; omega) (dp + 1) _ _ _ _ _ _ (hideAll s.heap [227]) F9.keep (Nat.le_of_lt (Nat.lt_of_le_of_lt F9.above F9.ns.lt)) hK hT (by omega) (by (try simp only [units_deeper]); omega) ?_
  rintro a C g h8 tk8 gs K8 hbare rfl hgat za zC haC hCge
  refine wpAny_pyIter_gen hgat.1 ?_
  have n0 : ∀ b, h7.get? b = none → True := fun _ _ => trivial
  have bn : ∀ {b : Addr} {hh : Heap}, Keep (hideAll s.heap [227]) hh → hh.get? b = none → (hideAll s.heap [227]).get? b = none := fun {b hh} k z => by
    cases e : (hideAll s.heap [227]).get? b with
    | none => rfl
    | some o => have := k b o e; rw [z] at this; cases this
  have hLa : L₁ ≠ a := fun e => by
    obtain ⟨o, _, _, h1, _⟩ := F9.ns
    rw [e, za] at h1; cases h1
  have hLC : L₁ ≠ C := fun e => by
    obtain ⟨o, _, _, h1, _⟩ := F9.ns
    rw [e, zC] at h1; cases h1
  have N8 := News.grown N9 K8
  have F8 := Fr.keeps F9 K8
  have hnew : ∀ p ∈ [(q, bmObj fp), (fp, PySem.W.listOf #[] 0), (227, ot)], p.1 ∉ [a, C] := fun p hp hm => by
    have h1 := (N9 p hp).1
    rcases List.mem_cons.mp hm with e | hm
    · rw [e, za] at h1; cases h1
    · rw [List.mem_singleton.mp hm, zC] at h1; cases h1
  refine gfor (kp := [C]) (news := [(q, bmObj fp), (fp, PySem.W.listOf #[] 0), (227, ot)]) (DJ x W tW fold Ws fp q (hideAll s.heap [227]) s.gens) rfl (by show dp + 1 < recursionLimit; simp only [recursionLimit]; omega) hT.nolimit hgat ?hC0 ?hLk ?haC F8 N8 hnew ⟨0, 0, [], 0, [], 0, ot, _, by omega, rfl, te, .nil, hw, Nat.zero_le _, Nat.le_refl _, rfl, ⟨fun i v e => by obtain ⟨hi, hv⟩ := Array.getElem?_eq_some_iff.mp e; rw [Array.getElem?_push_lt hi, hv], fun hb => AllBare.push hb hbare⟩, rfl, rfl, rfl, rfl, rfl, rfl⟩ (AllBare.push hg hbare) (fun s' v Q' hg' hq => letGo_gen hg' hq) (by passes_own) ?hJg ?turn ?done
  case hC0 =>
    intro b hb
    rcases List.mem_cons.mp hb with rfl | hb
    · exact bn F9.keep za
    · rw [List.mem_singleton.mp hb]; exact bn F9.keep zC
  case hLk =>
    intro hm
    rcases List.mem_cons.mp hm with e | hm
    · exact hLa e
    · exact hLC (List.mem_singleton.mp hm)
  case haC => exact fun hm => haC (List.mem_singleton.mp hm)
  case hJg =>
    rintro i m nx gs1 gs2 ⟨j, p, vs, k, fnd, used, ot', tu, h1, h2, h3, h4, h5, h6, h7, h8, h9, r⟩ hgo
    exact ⟨j, p, vs, k, fnd, used, ot', tu, h1, h2, h3, h4, h5, h6, h7, h8, GX.only (Nat.le_refl _) h9 hgo, r⟩
  case turn =>
    rintro i v m₁ nx hb' h tk gs1 own kp ⟨d, a1, b1, ta, tb, tx, hWi, rfl, hd, hd0⟩ Fb hbare1 hoff hnx hex how ⟨j, p, vs, k, fnd, used, ot1, tu, hij, rfl, te1, hvs, hwp, hp, hfl, hbr, hgx, e1, e2, e3, e4, e5, e6⟩ F N Nb
    clear F9 N9 F8 N8 te hgat
    have hj : Ws.length - 1 - i = j := by omega
    rw [hj] at hWi
    obtain ⟨rfl, hbe, hps, hcn, hwn⟩ := word_at hwp hWi
    have hble : b1 ≤ x.cps.size := hbe ▸ wend_le hp
    have hab : a1 < b1 := by rw [hbe]; unfold wend; omega
    have hxl : x.cps.size < 500 := hlen
    have hvl : vs.length < 500 := by have := hvs.length; rw [asInts_length] at this; omega
    have hzp : okx (⟨x.cps.extract a1 b1⟩ : Str) ∧ (⟨x.cps.extract a1 b1⟩ : Str).length < 500 := ⟨ex_ok hok a1 b1, Nat.lt_of_le_of_lt (ex_len x a1 b1) hlen⟩
    have hrp : okx (Txt.rstrip ⟨x.cps.extract a1 b1⟩) ∧ (Txt.rstrip ⟨x.cps.extract a1 b1⟩).length < 500 := ⟨rst_ok hzp.1, Nat.lt_of_le_of_lt (fact_rstrip _) hzp.2⟩
    have h1 := size_rst hok a1 b1
    have h2 := congrArg sizeL (ex_seg x a1 b1)
    have hdb := bn Fb.keep hd0
    have hdL : d ≠ L₁ := fun e => by
      obtain ⟨o, _, _, h3, _⟩ := Fb.ns
      have h4 : hb'.get? L₁ = some o := h3
      rw [← e, hd0] at h4; cases h4
    have hdf : @Ne Nat d fp := fun e => by
      have h3 := (Nb _ (.tail _ (.head _))).1
      rw [← e, hd0] at h3; cases h3
    have hd2 : @Ne Nat d 227 := fun e => by
      have h3 := (Nb _ (.tail _ (.tail _ (.head _)))).1
      rw [← e, hd0] at h3; cases h3
    have hro : OwnOff own [fp, 227] := fun p hp b hb => by
      rcases List.mem_cons.mp hb with rfl | hb
      · exact hoff p hp _ (.tail _ (.head _))
      · rw [List.mem_singleton.mp hb]; exact hoff p hp 227 (.tail _ (.tail _ (.head _)))
    clear hoff
    have F7' : Fr _ L₁ h _ := (Fr.know (y := Str.ofString "fold") (Fr.know (y := Str.ofString "width") (Fr.know (y := Str.ofString "_cell_len") (Fr.know (y := Str.ofString "cell_offset") (Fr.know (y := Str.ofString "break_positions") (Fr.know (y := Str.ofString "append") F e1) e2) e3) e4) e5) e6)
    have N6 : News _ L₁ h ((d, { cls := .type "tuple", data := .seq #[.int a1 ta, .int b1 tb, .str ⟨x.cps.extract a1 b1⟩ tx] }) :: (q, bmObj fp) :: (fp, PySem.W.listOf vs.toArray k) :: (227, ot1) :: own) := fun p hp => by
      rcases List.mem_cons.mp hp with rfl | hp
      · exact ⟨hd, hdL, hdb⟩
      · exact N p hp
    have hgx' : GX s.gens gs1 ∧ 0 = 0 := ⟨hgx, rfl⟩
    have G8 := GX.refl gs1
    clear F N Nb Fb hd hd0 hgx
    cases hfo : fold
    · rw [hfo] at F7'
      subst hfo
      k_steps
      · rename Fr _ _ _ _ => F9
        rename News _ _ _ _ => N9
        rename TabEnt _ _ => te9
        rename GX _ _ => G9
        exact GPost.fin [(q, bmObj fp), (fp, _), (227, _)] F9 (fun p hp => N9 p (.tail _ hp)) (fun p hp => by
          rcases List.mem_cons.mp hp with rfl | hp
          · exact hnx (q, bmObj fp) (.head _)
          · rcases List.mem_cons.mp hp with rfl | hp
            · exact hnx (fp, PySem.W.listOf vs.toArray k) (.tail _ (.head _))
            · rw [List.mem_singleton.mp hp]; exact hnx (227, ot1) (.tail _ (.tail _ (.head _)))) ⟨DJ.next hij hbr hWi (bs_fit h1 h2 (by omega)) te9 (hvs) hwn hble (by omega) (GX.trans hgx'.1 G9) rfl rfl rfl rfl rfl rfl, G9⟩
      · rename Fr _ _ _ _ => F9
        rename News _ _ _ _ => N9
        rename TabEnt _ _ => te9
        rename GX _ _ => G9
        rw [List.push_toArray] at N9
        exact GPost.fin [(q, bmObj fp), (fp, _), (227, _)] F9 (fun p hp => N9 p (.tail _ hp)) (fun p hp => by
          rcases List.mem_cons.mp hp with rfl | hp
          · exact hnx (q, bmObj fp) (.head _)
          · rcases List.mem_cons.mp hp with rfl | hp
            · exact hnx (fp, PySem.W.listOf vs.toArray k) (.tail _ (.head _))
            · rw [List.mem_singleton.mp hp]; exact hnx (227, ot1) (.tail _ (.tail _ (.head _)))) ⟨DJ.next hij hbr hWi ((bs_long h1 h2 (by omega) (by omega)).trans (by rw [if_neg (show a1 ≠ 0 by omega)])) te9 (by rw [asInts_push]; exact ints_push hvs _ _) hwn hble (by simp; omega) (GX.trans hgx'.1 G9) rfl rfl rfl rfl rfl rfl, G9⟩
      · rename Fr _ _ _ _ => F9
        rename News _ _ _ _ => N9
        rename TabEnt _ _ => te9
        rename GX _ _ => G9
        exact GPost.fin [(q, bmObj fp), (fp, _), (227, _)] F9 (fun p hp => N9 p (.tail _ hp)) (fun p hp => by
          rcases List.mem_cons.mp hp with rfl | hp
          · exact hnx (q, bmObj fp) (.head _)
          · rcases List.mem_cons.mp hp with rfl | hp
            · exact hnx (fp, PySem.W.listOf vs.toArray k) (.tail _ (.head _))
            · rw [List.mem_singleton.mp hp]; exact hnx (227, ot1) (.tail _ (.tail _ (.head _)))) ⟨DJ.next hij hbr hWi ((bs_long h1 h2 (by omega) (by omega)).trans (by rw [if_pos (show a1 = 0 by omega)])) te9 (hvs) hwn hble (by omega) (GX.trans hgx'.1 G9) rfl rfl rfl rfl rfl rfl, G9⟩
      · rename Fr _ _ _ _ => F9
        rename News _ _ _ _ => N9
        rename TabEnt _ _ => te9
        rename GX _ _ => G9
        rw [List.push_toArray] at N9
        exact GPost.fin [(q, bmObj fp), (fp, _), (227, _)] F9 (fun p hp => N9 p (.tail _ hp)) (fun p hp => by
          rcases List.mem_cons.mp hp with rfl | hp
          · exact hnx (q, bmObj fp) (.head _)
          · rcases List.mem_cons.mp hp with rfl | hp
            · exact hnx (fp, PySem.W.listOf vs.toArray k) (.tail _ (.head _))
            · rw [List.mem_singleton.mp hp]; exact hnx (227, ot1) (.tail _ (.tail _ (.head _)))) ⟨DJ.next hij hbr hWi (bs_cut h1 h2 (by omega) (by omega) (by omega) (by omega)) te9 (by rw [asInts_push]; exact ints_push hvs _ _) hwn hble (by simp; omega) (GX.trans hgx'.1 G9) rfl rfl rfl rfl rfl rfl, G9⟩
      · rename Fr _ _ _ _ => F9
        rename News _ _ _ _ => N9
        rename TabEnt _ _ => te9
        rename GX _ _ => G9
        exact GPost.fin [(q, bmObj fp), (fp, _), (227, _)] F9 (fun p hp => N9 p (.tail _ hp)) (fun p hp => by
          rcases List.mem_cons.mp hp with rfl | hp
          · exact hnx (q, bmObj fp) (.head _)
          · rcases List.mem_cons.mp hp with rfl | hp
            · exact hnx (fp, PySem.W.listOf vs.toArray k) (.tail _ (.head _))
            · rw [List.mem_singleton.mp hp]; exact hnx (227, ot1) (.tail _ (.tail _ (.head _)))) ⟨DJ.next hij hbr hWi (bs_stay h1 h2 (by omega) (by omega) (by omega)) te9 (hvs) hwn hble (by omega) (GX.trans hgx'.1 G9) rfl rfl rfl rfl rfl rfl, G9⟩
      · rename Fr _ _ _ _ => F9
        rename News _ _ _ _ => N9
        rename TabEnt _ _ => te9
        rename GX _ _ => G9
        exact GPost.fin [(q, bmObj fp), (fp, _), (227, _)] F9 (fun p hp => N9 p (.tail _ hp)) (fun p hp => by
          rcases List.mem_cons.mp hp with rfl | hp
          · exact hnx (q, bmObj fp) (.head _)
          · rcases List.mem_cons.mp hp with rfl | hp
            · exact hnx (fp, PySem.W.listOf vs.toArray k) (.tail _ (.head _))
            · rw [List.mem_singleton.mp hp]; exact hnx (227, ot1) (.tail _ (.tail _ (.head _)))) ⟨DJ.next hij hbr hWi (bs_stay h1 h2 (by omega) (by omega) (by omega)) te9 (hvs) hwn hble (by omega) (GX.trans hgx'.1 G9) rfl rfl rfl rfl rfl rfl, G9⟩
    · rw [hfo] at F7'
      subst hfo
      k_steps
      · rename Fr _ _ _ _ => F9
        rename News _ _ _ _ => N9
        rename TabEnt _ _ => te9
        rename GX _ _ => G9
        exact GPost.fin [(q, bmObj fp), (fp, _), (227, _)] F9 (fun p hp => N9 p (.tail _ hp)) (fun p hp => by
          rcases List.mem_cons.mp hp with rfl | hp
          · exact hnx (q, bmObj fp) (.head _)
          · rcases List.mem_cons.mp hp with rfl | hp
            · exact hnx (fp, PySem.W.listOf vs.toArray k) (.tail _ (.head _))
            · rw [List.mem_singleton.mp hp]; exact hnx (227, ot1) (.tail _ (.tail _ (.head _)))) ⟨DJ.next hij hbr hWi (bs_fit h1 h2 (by omega)) te9 (hvs) hwn hble (by omega) (GX.trans hgx'.1 G9) rfl rfl rfl rfl rfl rfl, G9⟩
      · rename Fr _ _ _ _ => F9
        rename News _ _ _ _ => N9
        rename TopRead _ _ _ _ _ => hT
        rename Frag.In _ _ => hK
        have hst := bs_fold (x := x.cps.toList) (fnd := fnd) (used := used) h1 h2 (by omega) (by omega)
        refine c_chop w mg mb ⟨x.cps.extract a1 b1⟩ tx 0 W tW (dp + 1) _ _ _ _ _ _ (hK.keeps F9.keep) (hT.keeps F9.keep) (by omega) (by (try simp only [units_deeper]); omega) hzp.1 hzp.2 hW hW2 ?_
        rintro CD cvs cn zs h9 tk9 K9 eCD zCD hcs hcz
        rw [ex_seg] at hcz
        have hcl := news_off N9 zCD
        have N8 := News.fresh F9 N9 K9 zCD eCD
        have F8 := Fr.keeps F9 K9
        clear F9 N9
        k_steps
        rename Fr _ _ _ _ => F9
        rename News _ _ _ _ => N9
        rename TopRead _ _ _ _ _ => hT
        rename Frag.In _ _ => hK
        rename AllBare _ => B9
        rename GX _ _ => G9
        rename TabEnt _ _ => te9
        have hCDe := N9 _ (.head _)
        have hflat : ((zs.map fun z => z.cps.toList)).flatten.length = b1 - a1 := by
          rw [hcz, chop_flat, seg_length (by simpa using hble)]
        have hzsl : ∀ z ∈ zs, z.length ≤ b1 - a1 ∧ okx z := fun z hz => by
          have h3 : z.cps.toList ∈ chop (W : Int) (seg x.cps.toList a1 b1) := hcz ▸ List.mem_map.mpr ⟨z, hz, rfl⟩
          have h4 := len_flat h3
          rw [chop_flat, seg_length (by simpa using hble)] at h4
          have h5 : z.cps.toList.length = z.length := by simp [Str.length]
          refine ⟨by omega, fun c hc => ?_⟩
          have h6 : c ∈ (chop (W : Int) (seg x.cps.toList a1 b1)).flatten := List.mem_flatten.mpr ⟨_, h3, hc⟩
          rw [chop_flat] at h6
          exact hzp.1 c (by rw [ex_seg]; exact h6)
        have hzs0 : 1 ≤ zs.length := by
          rcases Nat.eq_zero_or_pos zs.length with h | h
          · rw [List.length_eq_zero_iff.mp h] at hflat; simp at hflat; omega
          · exact h
        have hzsn : zs.length ≤ b1 - a1 := by
          have : ∀ l : List (List Nat), (∀ p ∈ l, p ≠ []) → l.length ≤ l.flatten.length := by
            intro l
            induction l with
            | nil => intro _; exact Nat.le_refl _
            | cons p l ih =>
              intro h
              have h1 := ih fun q hq => h q (.tail _ hq)
              have h2 := List.length_pos_iff.mpr (h p (.head _))
              rw [List.flatten_cons, List.length_append, List.length_cons]; omega
          have h3 := this (zs.map fun z => z.cps.toList) (fun p hp => (chop_fit (W := (W : Int)) (by omega) _ p (hcz ▸ hp)).1)
          rw [hflat, List.length_map] at h3
          exact h3
        refine c_last1 w mg mb CD cn cvs zs hcs (by omega) (dp + 1) _ _ _ _ _ _ (hideAll s.heap [227]) F9.keep (Nat.le_of_lt (Nat.lt_of_le_of_lt F9.above F9.ns.lt)) hK hT hCDe.1 hCDe.2.2 (by omega) (by (try simp only [units_deeper]); omega) ?_
        rintro a2 C2 g2 h8' tk8' gs2 K8' hbare2 rfl hgat2 za2 zC2 haC2 hCge2
        refine wpAny_pyIter_gen hgat2.1 ?_
        have hLa2 : L₁ ≠ a2 := fun e => by
          obtain ⟨o, _, _, h1, _⟩ := F9.ns
          rw [e, za2] at h1; cases h1
        have hLC2 : L₁ ≠ C2 := fun e => by
          obtain ⟨o, _, _, h1, _⟩ := F9.ns
          rw [e, zC2] at h1; cases h1
        have hLCD : L₁ ≠ CD := (hCDe.2.1).symm
        have offa2 := news_off N9 za2
        have offC2 := news_off N9 zC2
        have N8 := News.grown N9 K8'
        have F8 := Fr.keeps F9 K8'
        have haCD : a2 ≠ CD := fun e => offa2 _ (.head _) e.symm
        refine gfor (kp := [C2, CD]) (news := (fp, PySem.W.listOf vs.toArray k) :: (227, _) :: (q, bmObj fp) :: own) (EJ W tW b1 (zs.map fun z => z.cps.toList) (parts a1 fnd used (chop (W : Int) (seg x.cps.toList a1 b1))) fp q own (hideAll s.heap [227]) gs1) rfl (by show dp + 1 < recursionLimit; simp only [recursionLimit]; omega) hT.nolimit hgat2 ?hC02 ?hLk2 ?haC2 F8 ?hN2 ?hnew2 ⟨0, a1, vs, k, fnd, used, _, _, _, by rw [List.length_map]; omega, rfl, te9, hvs, fun _ => ⟨by rw [List.drop_zero, hcz], hfl, by rw [List.drop_zero, hflat]; omega⟩, fun h => by omega, GX.trans G9 ⟨fun i v e => by obtain ⟨hi, hv⟩ := Array.getElem?_eq_some_iff.mp e; rw [Array.getElem?_push_lt hi, hv], fun hb => AllBare.push hb hbare2⟩, rfl, rfl, rfl, rfl, rfl, rfl, rfl⟩ (AllBare.push B9 hbare2) (fun s' v Q' hg' hq => letGo_gen hg' hq) (by passes_own) ?hJg2 ?turn2 ?done2
        case hC02 =>
          intro b hb
          rcases List.mem_cons.mp hb with rfl | hb
          · exact bn F9.keep za2
          · rcases List.mem_cons.mp hb with rfl | hb
            · exact bn F9.keep zC2
            · rw [List.mem_singleton.mp hb]; exact hCDe.2.2
        case hLk2 =>
          intro hm
          rcases List.mem_cons.mp hm with e | hm
          · exact hLa2 e
          · rcases List.mem_cons.mp hm with e | hm
            · exact hLC2 e
            · exact hLCD (List.mem_singleton.mp hm)
        case haC2 =>
          intro hm
          rcases List.mem_cons.mp hm with e | hm
          · exact haC2 e
          · exact haCD (List.mem_singleton.mp hm)
        case hN2 =>
          intro p hp
          rcases List.mem_cons.mp hp with rfl | hp
          · exact N8 _ (by k_mem)
          · rcases List.mem_cons.mp hp with rfl | hp
            · exact N8 _ (by k_mem)
            · rcases List.mem_cons.mp hp with rfl | hp
              · exact N8 _ (by k_mem)
              · exact N8 _ (by repeat (first | exact hp | refine List.Mem.tail _ ?_))
        case hnew2 =>
          have key : ∀ p : Addr × Obj, p.1 ≠ a2 → p.1 ≠ C2 → p.1 ≠ CD → p.1 ∉ [a2, C2, CD] := fun p h1 h2 h3 hm => by
            rcases List.mem_cons.mp hm with e | hm
            · exact h1 e
            · rcases List.mem_cons.mp hm with e | hm
              · exact h2 e
              · exact h3 (List.mem_singleton.mp hm)
          intro p hp
          rcases List.mem_cons.mp hp with rfl | hp
          · exact key _ (offa2 _ (by k_mem)) (offC2 _ (by k_mem)) (hcl _ (by k_mem))
          · rcases List.mem_cons.mp hp with rfl | hp
            · exact key _ (offa2 _ (by k_mem)) (offC2 _ (by k_mem)) (hcl _ (by k_mem))
            · rcases List.mem_cons.mp hp with rfl | hp
              · exact key _ (offa2 _ (by k_mem)) (offC2 _ (by k_mem)) (hcl _ (by k_mem))
              · exact key _ (offa2 p (by repeat (first | exact hp | refine List.Mem.tail _ ?_))) (offC2 p (by repeat (first | exact hp | refine List.Mem.tail _ ?_))) (hcl p (by repeat (first | exact hp | refine List.Mem.tail _ ?_)))
        case hJg2 =>
          rintro i m nx gs3 gs4 ⟨j, a, vs, k, fnd, used, ot', tu, ta, h1, h2, h3, h4, h5, h6, h7, r⟩ hgo
          exact ⟨j, a, vs, k, fnd, used, ot', tu, ta, h1, h2, h3, h4, h5, h6, GX.only (GX.size_le G9) h7 hgo, r⟩
        case turn2 =>
          rintro i2 v2 m2 nx2 hb2 h2' tk2 gs3 own2 kp2 ⟨d2, z, tz, hz, rfl, hd', hd0'⟩ Fb hbare3 hoff2 hnx2 hex2 how2 ⟨j2, a2', vs2, k2, fnd2, used2, ot2, tu2, ta2, hij2, rfl, te2, hvs2, hpa2, _, hgx2, e7, e8, e9, e10, e11, e12, e13⟩ F N Nb
          clear F8 N8 F9 N9 te9 hgat2 B9
          have hj2 : zs.length - 1 - i2 = j2 := by rw [List.length_map] at hij2; omega
          rw [hj2] at hz
          have hzj : (zs.map fun z => z.cps.toList)[j2]? = some z.cps.toList := by rw [List.getElem?_map, hz]; rfl
          have hzm := List.mem_of_getElem? hzj
          have hne := (chop_fit (W := (W : Int)) (by omega) _ _ (hcz ▸ hzm)).1
          obtain ⟨hzl5, hzok⟩ := hzsl z (List.mem_of_getElem? hz)
          have hzp2 : okx z ∧ z.length < 500 := ⟨hzok, by omega⟩
          have hpa3 := hpa2 (by omega)
          have hvl2 : vs2.length < 500 := by have := hvs2.length; rw [asInts_length] at this; have := hpa3.2.1; have := hpa3.2.2; omega
          have hdb2 := bn Fb.keep hd0'
          have hdL2 : d2 ≠ L₁ := fun e => by
            obtain ⟨o, _, _, h3, _⟩ := Fb.ns
            have h4 : hb2.get? L₁ = some o := h3
            rw [← e, hd0'] at h4; cases h4
          have hdf2 : @Ne Nat d2 fp := fun e => by
            have h3 := (Nb _ (.head _)).1
            rw [← e, hd0'] at h3; cases h3
          have hd22 : @Ne Nat d2 227 := fun e => by
            have h3 := (Nb _ (.tail _ (.head _))).1
            rw [← e, hd0'] at h3; cases h3
          obtain ⟨rr2, hrr2⟩ : ∃ rr2, rr2 = own ++ own2 := ⟨_, rfl⟩
          have hro3 : OwnOff rr2 [fp, 227] := fun p hp b hb => by
            rw [hrr2] at hp
            rcases List.mem_append.mp hp with hp | hp
            · exact hro p hp b hb
            · rcases List.mem_cons.mp hb with rfl | hb
              · exact hoff2 p hp _ (.head _)
              · rw [List.mem_singleton.mp hb]; exact hoff2 p hp 227 (.tail _ (.head _))
          clear hoff2
          have F7 : Fr _ L₁ h2' _ := (Fr.know (y := Str.ofString "fold") (Fr.know (y := Str.ofString "width") (Fr.know (y := Str.ofString "_cell_len") (Fr.know (y := Str.ofString "start") (Fr.know (y := Str.ofString "cell_offset") (Fr.know (y := Str.ofString "break_positions") (Fr.know (y := Str.ofString "append") F e7) e8) e9) e10) e11) e12) e13)
          have N6 : News _ L₁ h2' ((d2, { cls := .type "tuple", data := .seq #[.bool (decide (i2 = 0)), .str z tz] }) :: (fp, PySem.W.listOf vs2.toArray k2) :: (227, ot2) :: (q, bmObj fp) :: rr2) := fun p hp => by
            rcases List.mem_cons.mp hp with rfl | hp
            · exact ⟨hd', hdL2, hdb2⟩
            · rw [hrr2] at hp
              exact N p hp
          have hgx3 : GX gs1 gs3 ∧ 0 = 0 := ⟨hgx2, rfl⟩
          have G8 := GX.refl gs3
          clear F N Nb Fb hd' hd0' hgx2 G9 hro hvs
          rcases Nat.eq_zero_or_pos i2 with hi0 | hi0
          · subst hi0
            rw [show decide (0 = 0) = true from rfl] at N6
            k_steps
            · rename Fr _ _ _ _ => F9
              rename News _ _ _ _ => N9
              rename TabEnt _ _ => te9
              rename GX _ _ => G9
              rw [List.push_toArray] at N9
              rw [hrr2] at N9
              exact GPost.fin ((fp, _) :: (227, _) :: (q, bmObj fp) :: own) F9 (fun p hp => N9 p (.tail _ hp)) (fun p hp => by
              rcases List.mem_cons.mp hp with rfl | hp
              · exact hnx2 (fp, PySem.W.listOf vs2.toArray k2) (.head _)
              · rcases List.mem_cons.mp hp with rfl | hp
                · exact hnx2 (227, ot2) (.tail _ (.head _))
                · exact hnx2 p (.tail _ (.tail _ hp))) ⟨EJ.last hij2 hzj hne hpa3 (by rw [if_neg (show a2' ≠ 0 by omega)]) rfl te9 (by rw [asInts_push]; exact ints_push hvs2 _ _) (GX.trans hgx3.1 G9) rfl rfl rfl rfl rfl rfl rfl, G9⟩
            · rename Fr _ _ _ _ => F9
              rename News _ _ _ _ => N9
              rename TabEnt _ _ => te9
              rename GX _ _ => G9
              rw [hrr2] at N9
              exact GPost.fin ((fp, _) :: (227, _) :: (q, bmObj fp) :: own) F9 (fun p hp => N9 p (.tail _ hp)) (fun p hp => by
              rcases List.mem_cons.mp hp with rfl | hp
              · exact hnx2 (fp, PySem.W.listOf vs2.toArray k2) (.head _)
              · rcases List.mem_cons.mp hp with rfl | hp
                · exact hnx2 (227, ot2) (.tail _ (.head _))
                · exact hnx2 p (.tail _ (.tail _ hp))) ⟨EJ.last hij2 hzj hne hpa3 (by rw [if_pos (show a2' = 0 by omega)]) rfl te9 (hvs2) (GX.trans hgx3.1 G9) rfl rfl rfl rfl rfl rfl rfl, G9⟩
          · rw [show decide (i2 = 0) = false from decide_eq_false (by omega)] at N6
            k_steps
            · rename Fr _ _ _ _ => F9
              rename News _ _ _ _ => N9
              rename TabEnt _ _ => te9
              rename GX _ _ => G9
              rw [List.push_toArray] at N9
              rw [hrr2] at N9
              exact GPost.fin ((fp, _) :: (227, _) :: (q, bmObj fp) :: own) F9 (fun p hp => N9 p (.tail _ hp)) (fun p hp => by
              rcases List.mem_cons.mp hp with rfl | hp
              · exact hnx2 (fp, PySem.W.listOf vs2.toArray k2) (.head _)
              · rcases List.mem_cons.mp hp with rfl | hp
                · exact hnx2 (227, ot2) (.tail _ (.head _))
                · exact hnx2 p (.tail _ (.tail _ hp))) ⟨EJ.mid hij2 hi0 hzj hne hpa3 (by rw [if_neg (show a2' ≠ 0 by omega)]) te9 (by rw [asInts_push]; exact ints_push hvs2 _ _) (GX.trans hgx3.1 G9) rfl rfl rfl rfl rfl rfl rfl, G9⟩
            · rename Fr _ _ _ _ => F9
              rename News _ _ _ _ => N9
              rename TabEnt _ _ => te9
              rename GX _ _ => G9
              rw [hrr2] at N9
              exact GPost.fin ((fp, _) :: (227, _) :: (q, bmObj fp) :: own) F9 (fun p hp => N9 p (.tail _ hp)) (fun p hp => by
              rcases List.mem_cons.mp hp with rfl | hp
              · exact hnx2 (fp, PySem.W.listOf vs2.toArray k2) (.head _)
              · rcases List.mem_cons.mp hp with rfl | hp
                · exact hnx2 (227, ot2) (.tail _ (.head _))
                · exact hnx2 p (.tail _ (.tail _ hp))) ⟨EJ.mid hij2 hi0 hzj hne hpa3 (by rw [if_pos (show a2' = 0 by omega)]) te9 (hvs2) (GX.trans hgx3.1 G9) rfl rfl rfl rfl rfl rfl rfl, G9⟩
        case done2 =>
          rintro m2 nx2 h2' tk2 gs3 hbare3 ⟨j2, a2', vs2, k2, fnd2, used2, ot2, tu2, ta2, hij2, rfl, te2, hvs2, _, hpa2, hgx2, e7, e8, e9, e10, e11, e12, e13⟩ F N
          clear F8 N8 F9 N9
          k_steps
          rename Fr _ _ _ _ => F9
          rename News _ _ _ _ => N9
          obtain ⟨hres, hfl2⟩ := hpa2 rfl
          exact GPost.fin [(q, bmObj fp), (fp, PySem.W.listOf vs2.toArray k2), (227, ot2)] F9 (fun p hp => N9 p (by
            rcases List.mem_cons.mp hp with rfl | hp
            · exact .tail _ (.tail _ (.head _))
            · rcases List.mem_cons.mp hp with rfl | hp
              · exact .head _
              · rcases List.mem_cons.mp hp with rfl | hp
                · exact .tail _ (.head _)
                · exact .tail _ (.tail _ (.tail _ hp)))) (fun p hp => by
            rcases List.mem_cons.mp hp with rfl | hp
            · exact hnx (q, bmObj fp) (.head _)
            · rcases List.mem_cons.mp hp with rfl | hp
              · exact hnx (fp, PySem.W.listOf vs.toArray k) (.tail _ (.head _))
              · rw [List.mem_singleton.mp hp]; exact hnx (227, ot1) (.tail _ (.tail _ (.head _)))) ⟨DJ.next hij hbr hWi (hst.trans hres.symm) te2 hvs2 hwn hble hfl2 (GX.trans hgx'.1 hgx2) e7 e8 e9 e11 e12 e13, hgx2⟩
      · rename Fr _ _ _ _ => F9
        rename News _ _ _ _ => N9
        rename TabEnt _ _ => te9
        rename GX _ _ => G9
        rw [List.push_toArray] at N9
        exact GPost.fin [(q, bmObj fp), (fp, _), (227, _)] F9 (fun p hp => N9 p (.tail _ hp)) (fun p hp => by
          rcases List.mem_cons.mp hp with rfl | hp
          · exact hnx (q, bmObj fp) (.head _)
          · rcases List.mem_cons.mp hp with rfl | hp
            · exact hnx (fp, PySem.W.listOf vs.toArray k) (.tail _ (.head _))
            · rw [List.mem_singleton.mp hp]; exact hnx (227, ot1) (.tail _ (.tail _ (.head _)))) ⟨DJ.next hij hbr hWi (bs_cut h1 h2 (by omega) (by omega) (by omega) (by omega)) te9 (by rw [asInts_push]; exact ints_push hvs _ _) hwn hble (by simp; omega) (GX.trans hgx'.1 G9) rfl rfl rfl rfl rfl rfl, G9⟩
      · rename Fr _ _ _ _ => F9
        rename News _ _ _ _ => N9
        rename TabEnt _ _ => te9
        rename GX _ _ => G9
        exact GPost.fin [(q, bmObj fp), (fp, _), (227, _)] F9 (fun p hp => N9 p (.tail _ hp)) (fun p hp => by
          rcases List.mem_cons.mp hp with rfl | hp
          · exact hnx (q, bmObj fp) (.head _)
          · rcases List.mem_cons.mp hp with rfl | hp
            · exact hnx (fp, PySem.W.listOf vs.toArray k) (.tail _ (.head _))
            · rw [List.mem_singleton.mp hp]; exact hnx (227, ot1) (.tail _ (.tail _ (.head _)))) ⟨DJ.next hij hbr hWi (bs_stay h1 h2 (by omega) (by omega) (by omega)) te9 (hvs) hwn hble (by omega) (GX.trans hgx'.1 G9) rfl rfl rfl rfl rfl rfl, G9⟩
      · rename Fr _ _ _ _ => F9
        rename News _ _ _ _ => N9
        rename TabEnt _ _ => te9
        rename GX _ _ => G9
        exact GPost.fin [(q, bmObj fp), (fp, _), (227, _)] F9 (fun p hp => N9 p (.tail _ hp)) (fun p hp => by
          rcases List.mem_cons.mp hp with rfl | hp
          · exact hnx (q, bmObj fp) (.head _)
          · rcases List.mem_cons.mp hp with rfl | hp
            · exact hnx (fp, PySem.W.listOf vs.toArray k) (.tail _ (.head _))
            · rw [List.mem_singleton.mp hp]; exact hnx (227, ot1) (.tail _ (.tail _ (.head _)))) ⟨DJ.next hij hbr hWi (bs_stay h1 h2 (by omega) (by omega) (by omega)) te9 (hvs) hwn hble (by omega) (GX.trans hgx'.1 G9) rfl rfl rfl rfl rfl rfl, G9⟩
  case done =>
    rintro m₁ nx h tk gs1 hbare1 ⟨j, p, vs, k, fnd, used, ot1, tu, hij, rfl, te1, hvs, hwp, hp, hfl, hbr, hgx, e1, e2, e3, e4, e5, e6⟩ F N
    clear F9 N9 F8 N8 te hgat
    have F7' : Fr _ L₁ h _ := (Fr.know (y := Str.ofString "fold") (Fr.know (y := Str.ofString "width") (Fr.know (y := Str.ofString "_cell_len") (Fr.know (y := Str.ofString "cell_offset") (Fr.know (y := Str.ofString "break_positions") (Fr.know (y := Str.ofString "append") F e1) e2) e3) e4) e5) e6)
    have hN := N _ (.tail _ (.head _))
    have hN2 := N _ (.tail _ (.tail _ (.head _)))
    have hN3 := hN.2.2
    have hf0 : s.heap.get? fp = none := by
      cases e : s.heap.get? fp with
      | none => rfl
      | some o => have h3 := h0T_get (show fp ≠ 227 from fun e => hf2 e.symm) e; rw [hN3] at h3; cases h3
    clear F N
    k_steps
    rename Fr _ _ _ _ => F9
    dsimp only
    refine hret fp vs k _ _ _ (keepT_of F9.keep) (te1 _ F9.keep hN2.1) hgx hN.1 hf0 ?_
    have hj : j = Ws.length := by omega
    rw [hj, List.take_length] at hbr
    rw [hbr]; exact hvs

end Mine
end
section
open PySem PySem.W PySem.W.X PySem.Calls PyProof.Rows
namespace Mine
theorem el_signs {prog : Program} {w : World} {A : Around} {E : Value → Shared → Prop} {s : Shared} {cenv : Env} {l : Addr} {items : Array Value} {n : Nat} {m₂ : Str → Option Value} {i : Nat} {t : Tok} {P : Str → Prop} {Q : Value → Shared → Prop} {p1 p2 p3 p4 p5 p6 p7 p8 p9 p10 p11 p12 p13 : Pos}
    (hk : cenv.scope.kind = .function) (hj : cenv.kindOf (Str.ofString "j") = some .local) (hns : s.heap.Ns cenv.locals m₂) (hm : m₂ (Str.ofString "j") = some (.int i t))
    (hsg : ∀ (p : Pos) (s' : Shared) (Q' : Value → Shared → Prop), s'.heap = s.heap → Q' (.ref l) s' → wpAny (model prog w) A (eval (.Name (Str.ofString "signs") p) cenv) Q' E s')
    (hln : ∀ (p : Pos) (s' : Shared) (Q' : Value → Shared → Prop), s'.heap = s.heap → Q' (.builtin "len") s' → wpAny (model prog w) A (eval (.Name (Str.ofString "len") p) cenv) Q' E s')
    (hl : s.heap.IsList l items) (hs : items.size = n) (hn0 : 0 < n) (hn8 : n ≤ 8) (hi : i < 100)
    (hit : ∀ k, k < n → ∃ z u, items[k]? = some (.str z u) ∧ P z)
    (h : ∀ z u tk', P z → Q (.str z u) { s with toks := tk' }) :
    wpAny (model prog w) A (eval (.Subscript (.Name (Str.ofString "signs") p1) (.BinOp (.Name (Str.ofString "j") p2) .Sub (.BinOp (.BinOp (.Name (Str.ofString "j") p3) .FloorDiv (.Call (.Name (Str.ofString "len") p4) [.Name (Str.ofString "signs") p5] [] p6) p7) .Mult (.Call (.Name (Str.ofString "len") p8) [.Name (Str.ofString "signs") p9] [] p10) p11) p12) p13) cenv) Q E s := by
  obtain ⟨hh, g, d, tk, os⟩ := s
  have len : ∀ (pa pb pc : Pos) (tk1 : Nat) (Q' : Value → Shared → Prop), (∀ u tk2, Q' (.int (n : Int) u) ⟨hh, g, d, tk2, os⟩) → wpAny (model prog w) A (eval (.Call (.Name (Str.ofString "len") pa) [.Name (Str.ofString "signs") pb] [] pc) cenv) Q' E ⟨hh, g, d, tk1, os⟩ := by
    intro pa pb pc tk1 Q' hq
    refine Call_ (hln _ _ _ rfl (callWith_method1 (first := []) (args_cons (hsg _ _ _ rfl (args_nil ?_)))))
    refine len_list (items := items) hl (by omega) ?_
    rw [hs]
    exact hq _ _
  have nj : ∀ (pa : Pos) (tk1 : Nat) (Q' : Value → Shared → Prop), Q' (.int (i : Int) t) ⟨hh, g, d, tk1, os⟩ → wpAny (model prog w) A (eval (.Name (Str.ofString "j") pa) cenv) Q' E ⟨hh, g, d, tk1, os⟩ := fun pa tk1 Q' hq =>
    wpAny_Name (wpAny_loadName_local hk hj hns hm hq) (by decide)
  refine Subscript_ (hsg _ _ _ rfl ?_)
  refine wpAny_BinOp (nj _ _ _ ?_)
  refine wpAny_BinOp (wpAny_BinOp (nj _ _ _ (len _ _ _ _ _ fun u1 tk1 => ?_)))
  refine floordiv_int (by omega) ?_ (Or.inl (PyProof.noPylong_small (by omega)))
  · refine len _ _ _ _ _ fun u2 tk2 => ?_
    refine mul_int ?_
    refine sub_int ?_
    have e : ((i : Int) - (i : Int).fdiv (n : Int) * (n : Int)) = ((i % n : Nat) : Int) := by
      rw [Int.fdiv_eq_ediv_of_nonneg _ (by omega), Int.natCast_emod, Int.emod_def, Int.mul_comm]
    have hlt : i % n < n := Nat.mod_lt _ hn0
    obtain ⟨z, u, hz, hp⟩ := hit _ hlt
    rw [e]
    refine item_list hl (by omega) (by omega) (x := .str z u) ?_ (h z u _ hp)
    rw [show ((i % n : Nat) : Int).toNat = i % n by omega]
    exact hz
/-- a list of single signs -/
structure MenuOk (its : Array Value) : Prop where
  pos : 0 < its.size
  le : its.size ≤ 8
  it : ∀ k, k < its.size → ∃ z u, its[k]? = some (.str z u) ∧ okx z ∧ z.length = 1
theorem ok_one {c : Nat} (h : okc c) : okx ⟨#[c]⟩ := fun d hd => by
  have : d ∈ [c] := by simpa using hd
  rw [List.mem_singleton.mp this]; exact h
theorem menu3 {t1 t2 t3 : Tok} : MenuOk #[.str (Str.ofString "a") t1, .str (Str.ofString "b") t2, .str (Str.ofString "中") t3] := by
  refine ⟨Nat.le_of_ble_eq_true rfl, Nat.le_of_ble_eq_true rfl, fun k hk => ?_⟩
  have hk' : k < 3 := hk
  have h : k = 0 ∨ k = 1 ∨ k = 2 := by omega
  rcases h with rfl | rfl | rfl
  · exact ⟨_, _, rfl, ok_one (c := 97) (.inl ⟨by omega, by omega⟩), rfl⟩
  · exact ⟨_, _, rfl, ok_one (c := 98) (.inl ⟨by omega, by omega⟩), rfl⟩
  · exact ⟨_, _, rfl, ok_one (c := 20013) (.inr rfl), rfl⟩
theorem menuA {t1 : Tok} : MenuOk #[.str (Str.ofString "a") t1] := by
  refine ⟨Nat.le_of_ble_eq_true rfl, Nat.le_of_ble_eq_true rfl, fun k hk => ?_⟩
  have hk' : k < 1 := hk
  have h : k = 0 := by omega
  subst h
  exact ⟨_, _, rfl, ok_one (c := 97) (.inl ⟨by omega, by omega⟩), rfl⟩
theorem menuW {t1 : Tok} : MenuOk #[.str (Str.ofString "中") t1] := by
  refine ⟨Nat.le_of_ble_eq_true rfl, Nat.le_of_ble_eq_true rfl, fun k hk => ?_⟩
  have hk' : k < 1 := hk
  have h : k = 0 := by omega
  subst h
  exact ⟨_, _, rfl, ok_one (c := 20013) (.inr rfl), rfl⟩
theorem item_three {prog : Program} {w : World} {A : Around} {E : Value → Shared → Prop} {s : Shared} {value slice : Expr} {l0 l1 l2 lo : Addr} {r : Int} {u : Tok} {Q : Value → Shared → Prop} (hl : s.heap.IsList lo #[.ref l0, .ref l1, .ref l2]) (h0 : 0 ≤ r) (h3 : r < 3)
    (h : ∀ ls, (ls = l0 ∨ ls = l1 ∨ ls = l2) → Q (.ref ls) s)
    (hs : subscripted slice false (.ref lo) (.int r u) = operate [.ref lo, .int r u] (getItem (.ref lo) (.int r u)) := by with_unfolding_all rfl) (hg : ∀ r, letTemporaryGo value (.ref lo) r = pure () := by intro _; with_unfolding_all rfl) :
    wpAny (model prog w) A (subscriptTail value slice (.ref lo) (.int r u)) Q E s := by
  have hr : r = 0 ∨ r = 1 ∨ r = 2 := by omega
  rcases hr with rfl | rfl | rfl
  · exact item_list hl (by omega) (by omega) (x := .ref l0) rfl (h l0 (.inl rfl)) hs hg
  · exact item_list hl (by omega) (by omega) (x := .ref l1) rfl (h l1 (.inr (.inl rfl))) hs hg
  · exact item_list hl (by omega) (by omega) (x := .ref l2) rfl (h l2 (.inr (.inr rfl))) hs hg
end Mine
end
section
open PySem PySem.W PySem.W.X PySem.Calls PyProof.Rows
namespace Mine
local macro_rules | `(tactic| walk_at "pad") => `(tactic| fail)
local macro_rules | `(tactic| k_room) => `(tactic| ((try simp only [depth_under_make, depth_under_kw, depth_in1, depth_deeper, depth_caller]); (simp only [recursionLimit] at *); omega))
local macro_rules | `(tactic| cell_enter) => `(tactic| first
  | (refine' pEnter [] ?k1 ?k2 ?k6 ?k7 ?k8 ?k9 ?kB ?_ ?c2 ?c3 ?c4 ?c5; (case k1 => k_asm); (case k2 => exact TopRead.nolimit (by assumption)); (case k6 => k_is); (case k7 => k_is); (case k8 => k_room); (case k9 => first | exact BindsTo.of_eq rfl | exact binds_K (by k_in) rfl (by k_is) rfl rfl rfl | fail "no rule for these arguments"); (case c5 => decide); (case kB => exact locs rfl); (case c2 => exact rfl); (case c3 => exact rfl); (case c4 => exact rfl); k_whole; intro h₁ L₁ hL₁ F₁ K₁; (rw [hideNil] at F₁); (have N₁ := newsNil F₁); (try dsimp only); (try k_fold))
  | (refine' pEnterC [] ?k1 ?k2 ?k6 ?k7 ?k8 ?k9 ?kB ?kD ?_ ?c2 ?c3 ?c4; (case k1 => k_asm); (case k2 => exact TopRead.nolimit (by assumption)); (case k6 => k_is); (case k7 => k_is); (case k8 => k_room); (case k9 => first | exact BindsTo.of_eq rfl | exact binds_K (by k_in) rfl (by k_is) rfl rfl rfl | fail "no rule for these arguments"); (case kB => exact rfl); (case kD => decide +kernel); (case c2 => exact rfl); (case c3 => exact rfl); (case c4 => exact rfl); k_whole; intro h₁ L₁ tk₁ cells₁ hL₁ F₁ N₁ Y₁ K₁ C₁; (rw [hideNil] at F₁ N₁); k_cells Y₁; (try simp only [List.cons_append, List.nil_append] at N₁); (try dsimp only); (try k_fold)))

local macro_rules | `(tactic| walk_at "exec For Name Call cons nil") => `(tactic| (k_here; (with_reducible show wpAny _ _ (exec (Stmt.For _ _ _ _ _) _) _ _ _); (refine' For_G ?_ (fun _ => rfl))))
local macro_rules | `(tactic| walk_at "exec For Name Call") => `(tactic| (k_here; (with_reducible show wpAny _ _ (exec (Stmt.For _ _ _ _ _) _) _ _ _); (refine' For_G ?_ (fun _ => rfl))))
local macro_rules | `(tactic| walk_at "exec For") => `(tactic| (k_here; (with_reducible show wpAny _ _ (exec (Stmt.For _ _ _ _ _) _) _ _ _); (refine' For_G ?_ (fun _ => rfl))))
structure Drawn1 (w : World) (base : Heap) (a b : Addr) (vs : List Value) (ns : List Int) : Prop where
  isl : base.IsList b vs.toArray
  inn : IntsAre vs ns
  len : ns.length < 100
  ne : a ≠ b
  out : base.get? a = none
  kout : (hd.heap_39 w.params).lookup a = none
theorem c_drawK {w : World} {mg mb : Str → Option Value} {a b L : Addr} {i many : Int} {ti tm : Tok} {n : Nat} {vs : List Value} {ns : List Int} {dp : Nat} {fr : Option (List Env)} {gd : Option (List Code)} {un : Nat} {s : Shared} {Q E : Value → Shared → Prop} {h₀ : Heap} {m : Str → Option Value} {nx : List (Addr × Obj)} {g : Obj → List (Addr × Obj)}
    (F : Fr h₀ L s.heap m) (N : News h₀ L s.heap nx) (U : UpdF a (lst #[.ref b, .int i ti] n) nx g) (X : (hd.heap_39 w.params).In h₀) (T : TopRead hd.view_39 LP mg mb h₀) (D : Drawn1 w h₀ a b vs ns) (hi : 0 ≤ i) (hm : 0 < many) (hdp : dp + 4 < 900) (hun : un + 80 < 9000)
    (h : ∀ r t i' t' h' tk', Fr h₀ L h' m → News h₀ L h' (g (lst #[.ref b, .int i' t'] n)) → 0 ≤ r → r < many → 0 ≤ i' → Q (.int r t) { heap := h', gens := s.gens, drawn := s.drawn, toks := tk', os := s.os }) :
    wpAny (model PySem.Challenge.rw_ey0021_01.row.prog w) (AA dp fr gd un) (call (.ref 273) [.ref a, .int many tm]) Q E s := by
  have hm' := Upd.mem U
  refine c_draw w mg mb a b i many ti tm n vs ns dp fr gd un s Q E (X.keeps F.keep) (T.keeps F.keep) hdp hun hm hi D.len (N _ hm').1 (D.isl.at fun o e => F.keep _ o e) D.inn D.ne D.kout ?_
  intro r t i' t' h' tk' k e lo hi' hj
  exact h r t i' t' h' tk' (Fr.mut F D.out (fun e => (N _ hm').2.1 e.symm) k) (News.upd N U k e) lo hi' hj
local macro_rules | `(tactic| walk_at "call ref") => `(tactic| (k_here; (with_reducible show wpAny _ _ (call (Value.ref 273) [Value.ref _, Value.int _ _]) _ _ _); (rename Fr _ _ _ _ => F9); (rename News _ _ _ _ => N9); (rename TopRead _ _ _ _ _ => T9); (rename Frag.In _ _ => X9); (rename Drawn1 _ _ _ _ _ _ => D9); (refine' c_drawK F9 N9 ?U X9 T9 D9 ?i ?m ?d ?u ?_; (case U => k_updF); (case i => assumption); (case m => omega); (case d => (try simp only [depth_deeper]); omega); (case u => (try simp only [units_deeper]); omega)); (intro r9 t9 j9 u9 h9 tk9 F9' N9' lo9 hi9 j9'); clear F9 N9; (try dsimp only at N9'); (try dsimp only)))
theorem ok_blank : okx (Str.ofString "") ∧ okx (Str.ofString " ") := by
  refine ⟨fun c hc => ?_, fun c hc => ?_⟩
  · have : (Str.ofString "").cps.toList = [] := rfl
    rw [this] at hc; cases hc
  · have : (Str.ofString " ").cps.toList = [32] := rfl
    rw [this] at hc; rw [List.mem_singleton.mp hc]; exact .inl ⟨by omega, by omega⟩
theorem ok_app {x y : Str} (hx : okx x) (hy : okx y) : okx (x ++ y) := fun c hc => by
  have e : (x ++ y).cps.toList = x.cps.toList ++ y.cps.toList := by
    show (x.cps ++ y.cps).toList = _
    simp
  rw [e] at hc
  rcases List.mem_append.mp hc with h | h
  · exact hx c h
  · exact hy c h
theorem len_app (x y : Str) : (x ++ y).length = x.length + y.length := by
  show (x.cps ++ y.cps).size = x.cps.size + y.cps.size
  simp
theorem mul_menu (r : Int) (h0 : 0 ≤ r) (h1 : r < 4) : okx (Txt.mul (Str.ofString " ") ([0, 0, 1, 2].getD r.toNat (0 : Int))) ∧ (Txt.mul (Str.ofString " ") ([0, 0, 1, 2].getD r.toNat (0 : Int))).length ≤ 2 ∧ 0 ≤ [0, 0, 1, 2].getD r.toNat (0 : Int) ∧ [0, 0, 1, 2].getD r.toNat (0 : Int) ≤ 2 := by
  have key : ∀ l : List Nat, (∀ c ∈ l, c = 32) → ∀ z : Str, z.cps.toList = l → okx z := fun l hl z hz c hc => by
    rw [hz] at hc
    rw [hl c hc]; exact .inl ⟨by omega, by omega⟩
  have hr : r = 0 ∨ r = 1 ∨ r = 2 ∨ r = 3 := by omega
  rcases hr with rfl | rfl | rfl | rfl
  · exact ⟨key [] (by simp) _ (by decide), by decide, by decide, by decide⟩
  · exact ⟨key [] (by simp) _ (by decide), by decide, by decide, by decide⟩
  · exact ⟨key [32] (by simp) _ (by decide), by decide, by decide, by decide⟩
  · exact ⟨key [32, 32] (by simp) _ (by decide), by decide, by decide, by decide⟩
theorem mul_blank {prog : Program} {w : World} {A : Around} {E : Value → Shared → Prop} {s : Shared} {t u : Tok} {r : Int} {Q : Value → Shared → Prop} (h0 : 0 ≤ r) (h1 : r < 4) (h : ∀ z t' k, okx z → z.length ≤ 2 → Q (.str z t') { s with toks := k }) :
    wpAny (model prog w) A (binaryOp .Mult (.str (Str.ofString " ") t) (.int ([0, 0, 1, 2].getD r.toNat (0 : Int)) u)) Q E s := by
  obtain ⟨a, b, c, d⟩ := mul_menu r h0 h1
  exact SB.mul (mulOk_of 16 1048576 (by decide) (by omega) (by omega) (by decide) (by decide)) fun t' k => h _ t' k a b
section
variable {prog : Program} {w : World} {A : Around} {E : Value → Shared → Prop} {Q : Flow → Shared → Prop} {s : Shared} {env : Env} {h₀ : Heap} {body : List Stmt}
/-- over a range from 0 by ones -/
theorem grange {r : Addr} {N : Nat} {t0 u0 v0 : Tok} {x : Str} {px : Pos} {m₀ : Str → Option Value} {news : List (Addr × Obj)} (J : Nat → (Str → Option Value) → List (Addr × Obj) → Array GenState → Prop)
    (hr : IsRange s.heap r 0 (N : Int) 1 t0 u0 v0) (hsm : Builtin.Range.small 0 (N : Int) 1 = true) (hx : env.kindOf x = some .local) (hp : (env.scope.kind == .class || (env.scope.kind == .module && env.locals != env.globals)) = false)
    (hh : A.handled = none) (F : Fr h₀ env.locals s.heap m₀) (N₀ : News h₀ env.locals s.heap news) (hj : J 0 m₀ news s.gens)
    (hE : PassesOwn (model prog w) A env E)
    (turn : ∀ (i : Nat) (t : Tok) m₁ nx h tk g own, i < N → OwnOff own (nx.map (·.1)) → (∀ p ∈ nx, p.1 ≠ s.heap.objs.size) → (∀ p ∈ own, p.1 = s.heap.objs.size) → J i m₁ nx g → Fr h₀ env.locals h (fun y => if y = x then some (.int (i : Int) t) else m₁ y) → News h₀ env.locals h (nx ++ own) →
      wpAny (model prog w) A (execs body env) (GPost h₀ env.locals [s.heap.objs.size] own (J (i + 1)) s.drawn s.os Q) E { heap := h, gens := g, drawn := s.drawn, toks := tk, os := s.os })
    (done : ∀ m₁ nx h tk g, J N m₁ nx g → Fr h₀ env.locals h m₁ → News h₀ env.locals h nx → Q .next { heap := h, gens := g, drawn := s.drawn, toks := tk, os := s.os }) :
    wpAny (model prog w) A (pyIter (.ref r)) (fun it s₂ => GLoop prog w A env (.Name x px) body [] Q E it s₂) E s := by
  have hsz : Builtin.Range.rangeSize 0 (N : Int) 1 = (N : Int) := by
    rw [rangeSize_pos (by omega) (by omega), Int.ediv_one]; omega
  refine wpAny_pyIter_range hr hsm ?_
  have W : Walks prog w A s.heap.objs.size [s.heap.objs.size] [s.heap.objs.size] N (fun i v => i < N ∧ ∃ t, v = .int (0 + i * 1) t)
      (fun i h => IsRangeIter h s.heap.objs.size (0 + (i : Nat) * 1) ((N : Int) - (i : Nat)) 1) := (Walks.range hh _ 0 1 N).bound
  refine gloop (h₀ := h₀) (m₀ := m₀) (news := news) (s := { s with heap := s.heap.push _ }) J W ?_ ?_ ?_ (F.push _) (fun p hp => ⟨Heap.get?_push_of_some _ (N₀ p hp).1, (N₀ p hp).2⟩) ?_ hj (fun _ _ _ _ _ h => wpAny_pure h) hE ?_ ?_
  · intro hm
    exact absurd F.ns.lt ((List.mem_singleton.mp hm) ▸ Nat.lt_irrefl _)
  · intro b' hb
    rw [List.mem_singleton.mp hb]
    exact next_is_new F
  · show IsRangeIter _ _ _ _ _
    rw [hsz]; simpa using Heap.get?_push_size _ rfl
  · intro p hp hI
    exact absurd (Heap.lt_size (N₀ p hp).1) ((List.mem_singleton.mp hI) ▸ Nat.lt_irrefl _)
  · rintro i v m₁ nx h tk g own hi ⟨_, u, rfl⟩ hoff hnx how hJ F₁ N₁
    refine wpAny_assign_Name (wpAny_storeName_local hx F₁.ns (fun h' hn hs => ?_) hp)
    have e : (0 : Int) + (i : Int) * 1 = (i : Int) := by omega
    rw [e] at hn
    exact turn i u m₁ nx h' _ g own hi hoff (fun p hp e => hnx p hp (by simp [e])) (fun p hp => List.mem_singleton.mp (how p hp)) hJ (F₁.set hn hs) (N₁.set hs)
  · intro m₁ nx h tk g _ hJ F₁ N₁
    exact wpAny_execs_nil (done m₁ nx h tk g hJ F₁ N₁)
end
section
variable {prog : Program} {w : World} {A : Around} {h₀ : Heap} {L : Addr} {m : Str → Option Value} {env : Env} {elt : Expr} {x : Str} {scope : Scope} {cl : List (Str × Addr)} {s : Shared} {S : List (Addr × Obj) → Prop} {Fin : List Value → List (Addr × Obj) → Prop} {news : List (Addr × Obj)}
theorem comp_any {n : Nat} (P : Str → Prop)
    (turn : ∀ (i : Nat) t I oI C oC D m₂ ys h tk (E' : Value → Shared → Prop), i < n → LCg.NsObj oC m₂ → m₂ x = some (.int (i : Int) t) → Fr h₀ L h m → News h₀ L h ((I, oI) :: (C, oC) :: (D, LCg.lst ys) :: news) → LCg.Off3 I C D news → ((@Ne Nat I C) ∧ (@Ne Nat I D) ∧ (@Ne Nat C D)) →
      wpAny (model prog w) A (eval elt (compEnvC scope cl C env)) (LCg.CompEnd h₀ L m { s with heap := h, toks := tk } I oI C oC D (LCg.lst ys) S (fun y news' => news' = news ∧ ∃ z u, y = .str z u ∧ P z)) E' { s with heap := h, toks := tk })
    (fin : ∀ ys zs, StrsAre ys zs → zs.length = n → (∀ z ∈ zs, P z) → Fin ys news) : LCg.CompRest prog w A h₀ L m env elt x scope cl s S (fun i v => ∃ t, v = .int (0 + (i : Int) * 1) t) Fin n 0 [] news := by
  have key : ∀ (j i : Nat) (ys : List Value) (zs : List Str), i + j = n → StrsAre ys zs → zs.length = i → (∀ z ∈ zs, P z) → LCg.CompRest prog w A h₀ L m env elt x scope cl s S (fun i v => ∃ t, v = .int (0 + (i : Int) * 1) t) Fin j i ys news := by
    intro j
    induction j with
    | zero =>
      intro i ys zs hi hy hl hp
      exact LCg.CompRest.zero (fin ys zs hy (by omega) hp)
    | succ j ih =>
      intro i ys zs hi hy hl hp
      refine LCg.CompRest.succ ?_
      rintro v I oI C oC D m₂ h tk E' ⟨t, rfl⟩ hC hx F N off ne
      rw [show (0 : Int) + (i : Int) * 1 = (i : Int) by omega] at hx
      refine wpAny_mono (turn i t I oI C oC D m₂ ys h tk E' (by omega) hC hx F N off ne) (fun y s₂ hq => ?_) fun _ _ e => e
      obtain ⟨h', tk', nw, e, F', N', off', hS, rfl, z, u, rfl, hz⟩ := hq
      exact ⟨h', tk', nw, e, F', N', off', hS, ih (i + 1) _ (zs ++ [z]) (by omega) (strs_push hy) (by simp [hl]) (fun y hy => by
        rcases List.mem_append.mp hy with h | h
        · exact hp y h
        · rw [List.mem_singleton.mp h]; exact hz)⟩
  exact key n 0 [] [] (by omega) .nil rfl (fun _ h => nomatch h)
end
theorem join_ok : ∀ {zs : List Str}, (∀ z ∈ zs, okx z ∧ z.length = 1) → okx (Str.join (Str.ofString "") zs) ∧ (Str.join (Str.ofString "") zs).length ≤ zs.length
  | [], _ => by
      refine ⟨fun c hc => ?_, Nat.le_refl _⟩
      have : (Str.join (Str.ofString "") []).cps.toList = [] := rfl
      rw [this] at hc; cases hc
  | [z], h => by
      obtain ⟨h1, h2⟩ := h z (.head _)
      exact ⟨h1, by show z.length ≤ 1; omega⟩
  | z :: y :: r, h => by
      obtain ⟨h1, h2⟩ := h z (.head _)
      obtain ⟨h3, h4⟩ := join_ok (zs := y :: r) fun x hx => h x (.tail _ hx)
      refine ⟨ok_app (ok_app h1 ok_blank.1) h3, ?_⟩
      show (z ++ Str.ofString "" ++ Str.join (Str.ofString "") (y :: r)).length ≤ _
      rw [len_app, len_app, h2, List.length_cons]
      have : (Str.ofString "").length = 0 := rfl
      omega
theorem sum_one : ∀ {zs : List Str}, (∀ z ∈ zs, okx z ∧ z.length = 1) → (zs.map (·.length)).sum = zs.length
  | [], _ => rfl
  | z :: r, h => by
      rw [List.map_cons, List.sum_cons, sum_one fun x hx => h x (.tail _ hx), (h z (.head _)).2, List.length_cons]; omega
theorem strs_arr {ys : List Value} {zs : List Str} (h : StrsAre ys zs) : StrsAre ys.toArray.toList zs := by simpa using h
local macro_rules | `(tactic| walk_at "binaryOp Mult str int") => `(tactic| (k_here; (with_reducible show wpAny _ _ (binaryOp Operator.Mult (Value.str (Str.ofString " ") _) (Value.int (List.getD _ _ _) _)) _ _ _); (refine mul_blank (by assumption) (by assumption) ?_); (intro z9 t9 k9 zo9 zl9); (try dsimp only)))
def Three (l0 l1 l2 : Addr) (P : Addr → Prop) : Prop := ∀ ls, (ls = l0 ∨ ls = l1 ∨ ls = l2) → P ls
theorem Three.out {l0 l1 l2 : Addr} {P : Addr → Prop} (h : Three l0 l1 l2 P) : ∀ ls, (ls = l0 ∨ ls = l1 ∨ ls = l2) → P ls := h
local macro_rules | `(tactic| walk_at "subscriptTail List cons Call ref int") => `(tactic| (k_here; (rename News _ _ _ _ => N9); k_dflt (refine kba_turn (value' := PySem.Expr.Name (PySem.Str.ofString "_") ⟨0, 0, 0, 0⟩) (fun _ => rfl) ?_; refine item_three (News.isList N9 (.head _)) (by assumption) (by assumption) (Three.out ?_))))
local macro_rules | `(tactic| walk_at "eval ListComp") => `(tactic| (k_here; k_dflt (refine ListComp_S (F₀ := by k_asm) (by with_unfolding_all rfl) (by decide) (by rfl) (by decide) (by rfl) ?_)))
/-- the loop of _law_line -/
def HJ (a b L₁ : Addr) (n : Nat) (g₀ : Array GenState) (i : Nat) (m : Str → Option Value) (nx : List (Addr × Obj)) (g : Array GenState) : Prop :=
  g = g₀ ∧ ∃ (o : Obj) (c : Option Value) (j : Int) (tj : Tok) (x : Str) (t : Tok), nx = [(L₁ + 1, o), (a, lst #[.ref b, .int j tj] n)] ∧ o.data = .cell c ∧ 0 ≤ j ∧ okx x ∧ x.length ≤ 2 + 11 * i ∧ m (Str.ofString "found") = some (.str x t) ∧ m (Str.ofString "state") = some (.ref a)
theorem c_lline (w : World) (mg mb) (a b : Addr) (i : Int) (ti : Tok) (n : Nat) (vs : List Value) (ns : List Int) (dp : Nat) (fr : Option (List Env)) (gd : Option (List Code)) (un : Nat) (s : Shared) (Q E : Value → Shared → Prop)
    (hK : (hd.heap_39 w.params).In s.heap) (hT : TopRead hd.view_39 LP mg mb s.heap) (hdp : dp + 20 < 900) (hun : un + 400 < 9000) (hi : 0 ≤ i) (hns : ns.length < 100)
    (ha : s.heap.get? a = some (lst #[.ref b, .int i ti] n)) (hb : s.heap.IsList b vs.toArray) (hv : IntsAre vs ns) (hab : a ≠ b) (hka : (hd.heap_39 w.params).lookup a = none)
    (hret : ∀ x t i' t' h' tk', (∀ b x, b ≠ a → s.heap.get? b = some x → h'.get? b = some x) → h'.get? a = some (lst #[.ref b, .int i' t'] n) → okx x → x.length < 100 → 0 ≤ i' → Q (.str x t) { heap := h', gens := s.gens, drawn := s.drawn, toks := tk', os := s.os }) :
    wpAny (model PySem.Challenge.rw_ey0021_01.row.prog w) (AA dp fr gd un) (call (.ref 288) [.ref a]) Q E s := by
  revert hK; k_fill; intro hK
  refine wpAny_call ?_
  k_dflt (refine' pEnterC (binds := [(Str.ofString "state", .ref a)]) [a] ?k1 ?k2 ?k6 ?k7 ?k8 ?k9 ?kB ?kD ?_ ?c2 ?c3 ?c4)
  case k1 => k_asm
  case k2 => exact TopRead.nolimit (by assumption)
  case k6 => k_dflt k_is
  case k7 => k_dflt k_is
  case k8 => k_room
  case k9 => k_dflt (first | exact BindsTo.of_eq rfl | exact binds_K (by k_in) rfl (by k_is) rfl rfl rfl)
  case kB => exact rfl
  case kD => decide +kernel
  case c2 => exact rfl
  case c3 => exact rfl
  case c4 => exact rfl
  k_whole
  intro h₁ L₁ tk₁ cells₁ hL₁ F₁ N₁ Y₁ K₁ C₁
  k_cells Y₁
  rename_i oS dS0
  have dS : oS.data = .cell none := dS0
  have F₂ : Fr (hideAll s.heap [a]) L₁ h₁ (fun z => if z = Str.ofString "state" then some (.ref a) else none) := F₁
  have hK2 : (hd.heap_39 w.params).In (hideAll s.heap [a]) := in_hide hK hka
  have hT2 := top_hide hT ha (fun es k e => by cases e)
  have hLa : @LT.lt Nat _ a L₁ := Nat.lt_of_lt_of_le (Heap.lt_size ha) hL₁
  have N₂ : News (hideAll s.heap [a]) L₁ h₁ [(L₁ + 1, oS), (a, lst #[.ref b, .int i ti] n)] := fun p hp => by
    rcases List.mem_cons.mp hp with rfl | hp
    · exact N₁ _ (.head _)
    · rw [List.mem_singleton.mp hp]
      exact ⟨K₁ _ _ ha, Nat.ne_of_lt hLa, hideAll_none [a] (.head _)⟩
  have D9 : Drawn1 w (hideAll s.heap [a]) a b vs ns := ⟨hb.at fun o e => hideAll_get [a] e (fun m => hab (List.mem_singleton.mp m).symm), hv, hns, hab, hideAll_none [a] (.head _), hka⟩
  have hsn : s.heap.get? a ≠ none := by rw [ha]; simp
  clear dS0 F₁ N₁ hK hT K₁ hb hv ha C₁
  (try dsimp only)
  (try k_fold)
  k_steps
  rename Fr _ _ _ _ => F9
  rename News _ _ _ _ => N9
  rename IsRange _ _ _ _ _ _ _ _ => I9
  rename _ < (7 : Int) => h7
  rename_i lo7 _ _ _ _ _ _ _
  obtain ⟨R, hR⟩ : ∃ R : Nat, _ = (R : Int) := ⟨Int.toNat _, (Int.toNat_of_nonneg lo7).symm⟩
  rw [hR] at I9 h7
  refine' grange (N := R) (news := [(L₁ + 1, oS), (a, lst #[.ref b, .int _ _] n)]) (HJ a b L₁ n s.gens) I9 (small_step (by omega) (by omega) (by omega) (by omega)) rfl rfl rfl F9 (fun p hp => N9 p (.tail _ hp)) ⟨rfl, oS, none, _, _, _, _, rfl, dS, by assumption, by assumption, by omega, rfl, rfl⟩ (by passes_own) ?turn ?done
  case turn =>
    rintro i2 t2 m1 nx h tk g own hi2 hoff hnx how ⟨rfl, o2, c2, j2, tj2, x2, tx2, rfl, ho2, hj2, hx2, hl2, e1, e2⟩ F N
    clear F9 N9
    have F7 := (Fr.know (y := Str.ofString "state") (Fr.know (y := Str.ofString "found") F (show _ = _ from e1)) e2)
    have N6 : News _ _ h ((L₁ + 1, o2) :: (a, lst #[.ref b, .int j2 tj2] n) :: own) := N
    clear F N
    have hi26 : i2 < 7 := by omega
    k_steps
    rename Fr _ _ _ _ => F9
    rename News _ _ _ _ => N9
    rename _ < (3 : Int) => h3
    rename_i l3 _ q3 l2 _ q2 l1 _ q1 l0 _ q0 _ _ _ _ hh9 _ lo3 j3
    intro ls hls
    have hmenu : ∃ its, News (hideAll s.heap [a]) L₁ hh9 [(ls, PySem.W.listOf its 0)] ∧ MenuOk its := by
      rcases hls with rfl | rfl | rfl
      · exact ⟨_, fun p hp => by rw [List.mem_singleton.mp hp]; exact N9 _ (.tail _ (.tail _ (.tail _ (.head _)))), menu3⟩
      · exact ⟨_, fun p hp => by rw [List.mem_singleton.mp hp]; exact N9 _ (.tail _ (.tail _ (.head _))), menuA⟩
      · exact ⟨_, fun p hp => by rw [List.mem_singleton.mp hp]; exact N9 _ (.tail _ (.head _)), menuW⟩
    obtain ⟨its, hmem, hmok⟩ := hmenu
    have hlsa : @LT.lt Nat _ a ls ∧ @LT.lt Nat _ (L₁ + 1) ls ∧ AllLt ls own := by
      rcases hls with rfl | rfl | rfl
      · exact ⟨q3.2.1, q3.1, q3.2.2⟩
      · exact ⟨q2.2.2.1, q2.2.1, q2.2.2.2⟩
      · exact ⟨q1.2.2.2.1, q1.2.2.1, q1.2.2.2.2⟩
    have N5 : News _ _ _ ((ls, PySem.W.listOf its 0) :: (L₁ + 1, o2) :: (a, _) :: own) := fun p hp => by
      rcases List.mem_cons.mp hp with rfl | hp
      · exact hmem _ (.head _)
      · exact N9 p (.tail _ (.tail _ (.tail _ (.tail _ hp))))
    obtain ⟨g1, g2, g3⟩ := hlsa
    have F8 := F9
    clear F9 N9 q3 q2 q1 q0 hmem hls
    k_steps
    rename Fr _ _ _ _ => F9
    rename News _ _ _ _ => N9
    rename IsRange _ _ _ _ _ _ _ _ => I9
    rename _ < (7 : Int) => h77
    rename_i lo77 _ _ _ _ _ _ _
    obtain ⟨M, hM⟩ : ∃ M : Nat, 1 + _ = (M : Int) := ⟨Int.toNat _, (Int.toNat_of_nonneg (show 0 ≤ 1 + _ by exact Int.add_nonneg (by decide) lo77)).symm⟩
    rw [hM] at I9
    with_reducible refine' SrcS.mk (n := M) ?hr ?hs ?hn ?hh ?F ?N ?hsz ?rest
    case hh => rfl
    case hr => exact I9
    case hs => exact small_step (by omega) (by omega) (by omega) (by omega)
    case hn => rw [rangeSize_pos (by omega) (by omega), Int.ediv_one]; omega
    case F => exact F9
    case N => exact N9
    case hsz =>
      have h2 : (1000 : Nat) ≤ sizeLine := by decide
      refine Nat.le_trans ?_ h2
      omega
    case rest =>
      intro g
      refine comp_any (fun z => okx z ∧ z.length = 1) ?turn3 ?fin3
      case turn3 =>
        intro i4 t4 I oI C oC D m4 ys h tk E' hi4 hC hx F N off ne
        have hi47 : i4 < 100 := by omega
        rename Obj.data _ = Data.cell (some (Value.ref ls)) => hcell
        refine' el_signs (items := its) (n := its.size) (l := ls) (i := i4) (t := t4) (m₂ := m4) (P := fun z => okx z ∧ z.length = 1) ?hk ?hj ?hns ?hm ?hsg ?hln ?hl rfl hmok.pos hmok.le hi47 hmok.it ?h
        case hk => rfl
        case hj => rfl
        case hns => exact LCg.NsObj.ns hC (N _ (.tail _ (.head _))).1
        case hm => exact hx
        case hsg =>
          intro p s' Q' e hq
          with_reducible refine' lcf_cell ?N ?c ?m ?d ?_ ?a ?b
          case N => rw [e]; exact N
          case c => exact rfl
          case m => exact .tail _ (.tail _ (.tail _ (.tail _ (.head _))))
          case d => exact hcell
          case a => exact rfl
          case b => exact rfl
          exact hq
        case hln =>
          intro p s' Q' e hq
          rename TopRead _ _ _ _ _ => T9
          rename Frag.In _ _ => X9
          obtain ⟨hs', gs', ds', ts', os'⟩ := s'
          have e' : hs' = h := e
          subst e'
          exact comp_built F X9 T9 (by k_is) (by boot_by_name) (by decide) hq
        case hl => exact News.isList N (.tail _ (.tail _ (.tail _ (.head _))))
        case h =>
          intro z u tk' hz
          exact LCg.CompEnd.intro F N _ (fun p hp => hp) off trivial ⟨rfl, z, u, rfl, hz⟩
      case fin3 =>
        intro ys zs hys hzl hzs D h tk F N off
        have hD : StrsAre ys zs ∧ 0 = 0 := ⟨hys, rfl⟩
        clear F9 N9 I9 hys
        k_steps
        rename Fr _ _ _ _ => F9
        rename News _ _ _ _ => N9
        have hzl7 : zs.length ≤ 7 := by omega
        refine join_listW (items := ys.toArray) (ys := zs) (News.isList N9 (by k_mem)) (strs_arr hD.1) (by decide) (by rw [sum_one hzs]; omega) fun tj kj => ?_
        obtain ⟨hok9, hle9⟩ := join_ok hzs
        rw [show Txt.join (Str.ofString "") zs = Str.join (Str.ofString "") zs from StrLaws.glued_eq_join _ _]
        generalize Str.join (Str.ofString "") zs = wz at hok9 hle9 ⊢
        have hwz7 : wz.length ≤ 7 := Nat.le_trans hle9 hzl7
        clear hzs hD hle9
        have hDa : @Ne Nat a D := off.2.2.1
        dsimp only
        k_steps
        · rename Fr _ _ _ _ => F9
          rename News _ _ _ _ => N9
          rename okx _ => zo9
          rename Obj.data _ = Data.cell (some (Value.ref ls)) => hcell
          rename (0 : Int) ≤ _ => j9'
          exact GPost.fin [(L₁ + 1, _), (a, _)] F9 (fun p hp => by
            rcases List.mem_cons.mp hp with rfl | hp
            · exact N9 _ (by k_mem)
            · rcases List.mem_cons.mp hp with rfl | hp
              · exact N9 _ (by k_mem)
              · exact N9 p (by repeat (first | exact hp | refine List.Mem.tail _ ?_))) (fun p hp hb => by
            rcases List.mem_cons.mp hp with rfl | hp
            · exact hnx (L₁ + 1, o2) (.head _) (List.mem_singleton.mp hb)
            · rw [List.mem_singleton.mp hp] at hb
              exact hnx (a, _) (.tail _ (.head _)) (List.mem_singleton.mp hb)) ⟨rfl, _, _, _, _, _, _, rfl, hcell, j9', ok_app (ok_app (ok_app hx2 ok_blank.2) hok9) zo9, by
            rw [len_app, len_app, len_app]
            have e1 : (Str.ofString "").length = 0 := rfl
            have e2 : (Str.ofString " ").length = 1 := rfl
            omega, rfl, rfl⟩
        · rename Fr _ _ _ _ => F9
          rename News _ _ _ _ => N9
          rename okx _ => zo9
          rename Obj.data _ = Data.cell (some (Value.ref ls)) => hcell
          rename (0 : Int) ≤ _ => j9'
          exact GPost.fin [(L₁ + 1, _), (a, _)] F9 (fun p hp => by
            rcases List.mem_cons.mp hp with rfl | hp
            · exact N9 _ (by k_mem)
            · rcases List.mem_cons.mp hp with rfl | hp
              · exact N9 _ (by k_mem)
              · exact N9 p (by repeat (first | exact hp | refine List.Mem.tail _ ?_))) (fun p hp hb => by
            rcases List.mem_cons.mp hp with rfl | hp
            · exact hnx (L₁ + 1, o2) (.head _) (List.mem_singleton.mp hb)
            · rw [List.mem_singleton.mp hp] at hb
              exact hnx (a, _) (.tail _ (.head _)) (List.mem_singleton.mp hb)) ⟨rfl, _, _, _, _, _, _, rfl, hcell, j9', ok_app (ok_app (ok_app hx2 ok_blank.1) hok9) zo9, by
            rw [len_app, len_app, len_app]
            have e1 : (Str.ofString "").length = 0 := rfl
            have e2 : (Str.ofString " ").length = 1 := rfl
            omega, rfl, rfl⟩
  case done =>
    rintro m1 nx h tk g ⟨rfl, o2, c2, j2, tj2, x2, tx2, rfl, ho2, hj2, hx2, hl2, e1, e2⟩ F N
    clear F9 N9
    have F7 := (Fr.know (y := Str.ofString "state") (Fr.know (y := Str.ofString "found") F (show _ = _ from e1)) e2)
    have hNa := N _ (.tail _ (.head _))
    clear F N
    k_steps
    rename Fr _ _ _ _ => F9
    dsimp only
    exact hret _ _ _ _ _ _ (fun b x hb e => F9.keep b x (hideAll_get [a] e (fun m => hb (List.mem_singleton.mp m)))) hNa.1 hx2 (by omega) hj2

end Mine
end
section
open PySem PySem.W PySem.W.X PySem.Calls PyProof.Rows
namespace Mine
local macro_rules | `(tactic| k_room) => `(tactic| ((try simp only [depth_under_make, depth_under_kw, depth_in1, depth_deeper, depth_caller]); (simp only [recursionLimit] at *); omega))
local macro_rules | `(tactic| cell_enter) => `(tactic| first
  | (refine' pEnter [] ?k1 ?k2 ?k6 ?k7 ?k8 ?k9 ?kB ?_ ?c2 ?c3 ?c4 ?c5; (case k1 => k_asm); (case k2 => exact TopRead.nolimit (by assumption)); (case k6 => k_is); (case k7 => k_is); (case k8 => k_room); (case k9 => first | exact BindsTo.of_eq rfl | exact binds_K (by k_in) rfl (by k_is) rfl rfl rfl | fail "no rule for these arguments"); (case c5 => decide); (case kB => exact locs rfl); (case c2 => exact rfl); (case c3 => exact rfl); (case c4 => exact rfl); k_whole; intro h₁ L₁ hL₁ F₁ K₁; (rw [hideNil] at F₁); (have N₁ := newsNil F₁); (try dsimp only); (try k_fold))
  | (refine' pEnterC [] ?k1 ?k2 ?k6 ?k7 ?k8 ?k9 ?kB ?kD ?_ ?c2 ?c3 ?c4; (case k1 => k_asm); (case k2 => exact TopRead.nolimit (by assumption)); (case k6 => k_is); (case k7 => k_is); (case k8 => k_room); (case k9 => first | exact BindsTo.of_eq rfl | exact binds_K (by k_in) rfl (by k_is) rfl rfl rfl | fail "no rule for these arguments"); (case kB => exact rfl); (case kD => decide +kernel); (case c2 => exact rfl); (case c3 => exact rfl); (case c4 => exact rfl); k_whole; intro h₁ L₁ tk₁ cells₁ hL₁ F₁ N₁ Y₁ K₁ C₁; (rw [hideNil] at F₁ N₁); k_cells Y₁; (try simp only [List.cons_append, List.nil_append] at N₁); (try dsimp only); (try k_fold)))

local macro_rules | `(tactic| walk_at "getMethod ref") => `(tactic| (k_here; (with_reducible show wpAny _ _ (getMethod (Value.ref 251) (PySem.Str.ofString "match") _) _ _ _); (rename Fr _ _ _ _ => F9); (refine m_match (Frag.In.keeps (by assumption) (Fr.keep F9)) ?_); (try dsimp only)))
local macro_rules | `(tactic| walk_at "getMethod ref") => `(tactic| (k_here; (with_reducible show wpAny _ _ (getMethod (Value.ref _) (PySem.Str.ofString "span") _) _ _ _); (rename News _ _ _ _ => N9); (k_dflt (refine m_matN N9 (by k_mem) slot_span type_span ?_)); (try dsimp only)))
local macro_rules | `(tactic| walk_at "getMethod ref") => `(tactic| (k_here; (with_reducible show wpAny _ _ (getMethod (Value.ref _) (PySem.Str.ofString "group") _) _ _ _); (rename News _ _ _ _ => N9); (k_dflt (refine m_matN N9 (by k_mem) slot_group type_group ?_)); (try dsimp only)))
local macro_rules | `(tactic| walk_at "call builtin:re.Match.span") => `(tactic| (k_here; (rename Fr _ _ _ _ => F9); (rename News _ _ _ _ => N9); (refine call_spanN N9 (by k_mem) (by k_mem) ?_); (intro h9 d9 t1 t2 tk9 K9 e9 z9); (have N9' := News.fresh F9 N9 K9 z9 e9); (have F9' := Fr.keeps F9 K9); clear F9 N9; (try dsimp only)))
local macro_rules | `(tactic| walk_at "call builtin:re.Match.group") => `(tactic| (k_here; (rename News _ _ _ _ => N9); (refine call_groupN N9 (by k_mem) (by k_mem) (by assumption) ?_); (intro t1 tk9); (try dsimp only)))
/-- a generator whose own objects do not change -/
def GAtF (prog : Program) (w : World) (A : Around) (a : Addr) (g : Nat) (fp wr : List Addr) (base : Heap) (It : Nat → Value → Heap → Heap → Prop) (n : Nat) (s : Shared) : Prop :=
  s.heap.IsGen a g ∧ (∀ b ∈ fp, ∃ o, s.heap.get? b = some o) ∧ ∃ gs, s.gens[g]? = some gs ∧ ∀ s'' : Shared, Keep base s''.heap → (∀ b ∈ fp, ∀ o, s.heap.get? b = some o → s''.heap.get? b = some o) →
    gs.Goes (model prog w) A.in1 (GR wr) (GY fp wr base It) n (.send .none) s''
section
variable {prog : Program} {w : World} {A : Around} {E : Value → Shared → Prop} {s : Shared} {fp wr : List Addr} {base : Heap} {It : Nat → Value → Heap → Heap → Prop}
theorem GAtF.keeps {a : Addr} {g n : Nat} {s' : Shared} (x : GAtF prog w A a g fp wr base It n s) (ha : ∀ o, s.heap.get? a = some o → s'.heap.get? a = some o) (hC : ∀ b ∈ fp, ∀ o, s.heap.get? b = some o → s'.heap.get? b = some o) (hg : ∀ y, s.gens[g]? = some y → s'.gens[g]? = some y) : GAtF prog w A a g fp wr base It n s' := by
  obtain ⟨⟨o, f, r, h1, h2⟩, hk, gs, h3, h4⟩ := x
  exact ⟨⟨o, f, r, ha _ h1, h2⟩, fun b hb => let ⟨o, e⟩ := hk b hb; ⟨o, hC b hb o e⟩, gs, hg _ h3, fun s'' hb hc => h4 s'' hb fun b hb' o e => hc b hb' o (hC b hb' o e)⟩
theorem gatF_next {a : Addr} {g n : Nat} {Q : Option Value → Shared → Prop} (hh : A.handled = none) (hl : s.heap.NoLimit) (hroom : A.depth < recursionLimit) (x : GAtF prog w A a g fp wr base It n s) (hsub : ∀ b ∈ wr, b ∈ fp) (hb : Keep base s.heap) (haC : a ∉ fp) (hC0 : ∀ b ∈ fp, base.get? b = none)
    (item : ∀ m v s', n = m + 1 → It m v s.heap s'.heap → GAtF prog w A a g fp wr base It m s' → (∀ b o, b ∉ wr → s.heap.get? b = some o → s'.heap.get? b = some o) → GenOnlyQ g s.gens s'.gens → s'.drawn = s.drawn → s'.os = s.os → Q (some v) s')
    (done : ∀ s', n = 0 → (∀ b o, b ∉ wr → s.heap.get? b = some o → s'.heap.get? b = some o) → GenOnlyQ g s.gens s'.gens → s'.drawn = s.drawn → s'.os = s.os → Q none s') :
    wpAny (model prog w) A (pyNext (.ref a)) Q E s := by
  obtain ⟨hg, hex, gs, hgs, hgo⟩ := id x
  have only : ∀ (s₁ : Shared) (y : GenState), y.bare = true → s₁.gens = (s.setGen g .running).gens → GenOnlyQ g s.gens (s₁.setGen g y).gens := fun s₁ y hy e =>
    GenOnlyQ.of (y := y) ⟨by rw [gens_size, e, gens_size], fun k hk => by rw [gens_other hk, e, gens_other hk]⟩ (gens_set (gs := .running) (by rw [e]; exact gens_set hgs)) hy
  have hgo := hgo (s.setGen g .running) hb fun _ _ o e => e
  refine next_gen (base := base) (fp := fp) (wr := wr) (It := It) hh hl hroom hg hgs hgo (fun v s₁ gs' hb' hy => ?_) (fun s₁ hn hs h' hk => ?_)
  · obtain ⟨hit, hs, hex', hres⟩ := hy
    cases n with
    | zero =>
      exfalso
      refine hres s₁ (fun b o e => hs.heap b o (fun hm => ?_) (hb b o e)) (fun _ _ o e => e)
      rw [hC0 b (hsub b hm)] at e; cases e
    | succ m =>
      refine item m v _ rfl hit ⟨?_, hex', gs', gens_set (gs := .running) (by rw [hs.gens]; exact gens_set hgs), fun s'' h1 h2 => hres s'' h1 h2⟩ (fun b o n e => hs.heap b o n e) (only _ _ hb' hs.gens) hs.drawn hs.os
      obtain ⟨o, f, r, h1, h2⟩ := hg
      exact ⟨o, f, r, hs.heap _ _ (fun hm => haC (hsub a hm)) h1, h2⟩
  · subst hn
    exact done _ rfl (fun b o n e => hk b o (hs.heap b o n e)) (only _ _ rfl hs.gens) hs.drawn hs.os
end
theorem c_wordsF (w : World) (mg mb) (x : Str) (t : Tok) (W : List (Nat × Nat)) (hW : WordsAt x.cps 0 W) (hx : okx x) (hlen : x.cps.size < 1000) (dp : Nat) (fr : Option (List Env)) (gd : Option (List Code)) (un : Nat) (s : Shared) (Q E : Value → Shared → Prop)
    (A' : Around) (hA' : A'.handled = none) (base : Heap) (hbase : Keep base s.heap) (hbsz : base.objs.size ≤ s.heap.objs.size) (hKb : (hd.heap_39 w.params).In base) (hTb : TopRead hd.view_39 LP mg mb base)
    (hdp : dp + 4 < 900) (hun : un + 80 < 9000)
    (hret : ∀ a C g h' tk gs, Keep s.heap h' → gs.bare = true → g = s.gens.size → GAtF PySem.Challenge.rw_ey0021_01.row.prog w A' a g [C] [C] base (WIt x W) W.length { heap := h', gens := s.gens.push gs, drawn := s.drawn, toks := tk, os := s.os } → s.heap.get? a = none → s.heap.get? C = none → a ≠ C → s.heap.objs.size ≤ C →
      Q (.ref a) { heap := h', gens := s.gens.push gs, drawn := s.drawn, toks := tk, os := s.os }) :
    wpAny (model PySem.Challenge.rw_ey0021_01.row.prog w) (AA dp fr gd un) (call (.ref 258) [.str x t]) Q E s := by
  have hK : (hd.heap_39 w.params).In s.heap := hKb.keeps hbase
  have hT : TopRead hd.view_39 LP mg mb s.heap := hTb.keeps hbase
  revert hK; k_fill; intro hK
  refine wpAny_call ?_
  k_dflt (refine' pEnterG ?k1 ?k2 ?k6 ?k7 ?k8 ?k9 ?kB ?_ ?c2 ?c3 ?c4 ?c5)
  case k1 => k_asm
  case k2 => exact hT.nolimit
  case k6 => k_dflt k_is
  case k7 => k_dflt k_is
  case k8 => k_room
  case k9 => k_dflt (first | exact BindsTo.of_eq rfl | exact binds_K (by k_in) rfl (by k_is) rfl rfl rfl)
  case c5 => decide
  case kB => k_dflt (exact locs rfl)
  case c2 => exact rfl
  case c3 => exact rfl
  case c4 => exact rfl
  intro h₁ C a tk gs k1 hn hC haC hgen hC0 ha0 e
  refine hret a C _ h₁ _ gs k1 (by rw [e]; rfl) rfl ⟨hgen, (fun b hm => by rw [List.mem_singleton.mp hm]; exact (let ⟨o, _, _, h, _⟩ := hn; ⟨o, h⟩)), gs, ?_, fun s'' hb hc' => ?_⟩ ha0 hC0 (Nat.ne_of_gt haC) hC
  · show (s.gens.push gs)[s.gens.size]? = some gs
    rw [Array.getElem?_push_size]
  · subst e
    refine ⟨rfl, seg_func ?_⟩
    have hc := hc' C (by simp)
    have F₁ : Fr base C s''.heap _ := ⟨hn.at' hc, hb, Nat.le_trans hbsz hC⟩
    obtain ⟨hh, gg, dd, tt, oo⟩ := s''
    have N₁ : News base C hh (allBut base C hh) := allBut_news
    clear hn hc hc' hK hT
    rw [show ∀ a b c d : Stmt, [a, b, c, d] = [a, b, c] ++ [d] from fun _ _ _ _ => rfl, execs_append_wrap]
    refine seg_wrap (wpAny_mono (Q := WEnd x t W base C W.length ⟨hh, gg, dd, tt, oo⟩) (E := fun _ _ => False) ?walk (fun f s1 h => ?tail) (fun _ _ z => z.elim))
    case walk =>
      have hb' : Keep base hh := hb
      k_steps
      rename Fr _ _ _ _ => F9
      rename News _ _ _ _ => N9
      refine call_any (p := 0) rfl hW (hKb.keeps F9.keep) hx hlen (Nat.zero_le _) (fun hl => ?_) (fun mo tu h' hl K9 e1 e2 z1 z2 => ?_)
      · k_steps
        rename Fr _ _ _ _ => F9
        rename News _ _ _ _ => N9
        exact ⟨rfl, ⟨0, [], [], _, hl, by rw [hl], hl ▸ hW, Nat.zero_le _, F9, rfl, .inl ⟨rfl, rfl⟩⟩, ⟨rfl, rfl, rfl, allBut_keep hb' F9 N9 fun p hp => hp, fun _ => let ⟨o, _, _, h, _⟩ := F9.ns; ⟨o, h⟩⟩⟩
      · have N7 := News.add F9 z1 e1 (News.add F9 z2 e2 (News.grown N9 K9))
        have F7 := Fr.keeps F9 K9
        clear F9 N9
        k_steps
        rename Fr _ _ _ _ => F9
        rename News _ _ _ _ => N9
        exact ⟨rfl, ⟨0, W, [], _, rfl, rfl, hW, Nat.zero_le _, F9, rfl, .inr ⟨hl, mo, tu, rfl, fun p hp => N9 p (by
          rcases List.mem_cons.mp hp with rfl | hp
          · exact .head _
          · rw [List.mem_singleton.mp hp]; exact .tail _ (.head _))⟩⟩, ⟨rfl, rfl, rfl, allBut_keep hb' F9 N9 fun p hp => .tail _ (.tail _ hp), fun _ => let ⟨o, _, _, h, _⟩ := F9.ns; ⟨o, h⟩⟩⟩
    case tail =>
      obtain ⟨rfl, hI, hs⟩ := h
      refine seg_execs_cons (seg_While fun p => ?_)
      obtain ⟨_, dA, fA, gA, uA⟩ := A'
      cases hA'
      refine seg_gwhile (b1 := [_, _]) (b2 := [_]) (WInv x t W base C) _ _ ?turn rfl rfl _ rfl rfl rfl (Nat.le_refl _) (Nat.le_refl _) ?rest _ _ _ hI hs
      case turn =>
        clear hI hs hret hbase hb N₁ F₁
        rintro A2 n s2 hA2 _ _ ⟨p, l, pre, m, hWl, hn, hw, hp, F₂, htext, hcase⟩
        obtain ⟨_, dA2, fA2, gA2, uA2⟩ := A2
        cases hA2
        obtain ⟨h2, g2, d2, t2, o2⟩ := s2
        have hb2 : Keep base h2 := F₂.keep
        have F₃ := Fr.know F₂ htext
        have N₃ : News base C h2 (allBut base C h2) := allBut_news
        rcases hcase with ⟨hl, hm⟩ | ⟨hl, mo, tu, hm, Nm⟩
        · have F₄ := Fr.know F₃ (show (fun z => if z = Str.ofString "text" then some (Value.str x t) else m z) (Str.ofString "word_match") = some .none from hm)
          refine wpAny_mono (Q := TEnd false ⟨h2, g2, d2, t2, o2⟩) (E := fun _ _ => False) ?_ (fun b s3 h3 => ?_) (fun _ _ z => z)
          · clear F₂ F₃
            k_steps
            exact ⟨rfl, _, rfl⟩
          · obtain ⟨rfl, tk, rfl⟩ := h3
            rw [if_neg Bool.false_ne_true]
            exact ⟨by rw [← hn, hl]; rfl, ⟨rfl, rfl, rfl, fun _ _ _ e => e, id⟩⟩
        · have F₄ := Fr.know F₃ (show (fun z => if z = Str.ofString "text" then some (Value.str x t) else m z) (Str.ofString "word_match") = some (.ref mo) from hm)
          refine wpAny_mono (Q := TEnd true ⟨h2, g2, d2, t2, o2⟩) (E := fun _ _ => False) ?_ (fun b s3 h3 => ?_) (fun _ _ z => z)
          · clear F₂ F₃
            k_steps
            exact ⟨rfl, _, rfl⟩
          · obtain ⟨rfl, tk, rfl⟩ := h3
            rw [if_pos rfl]
            cases hw with
            | nil _ => exact absurd rfl hl
            | cons hlt hb1 hrest =>
              rename_i l'
              refine ⟨l'.length, by rw [← hn]; rfl, ?_⟩
              have Na : News base C h2 ((mo, matObj x t p x.cps.size tu) :: (tu, spanObj p (wend x.cps p)) :: allBut base C h2) := fun q hq => by
                rcases List.mem_cons.mp hq with rfl | hq
                · exact Nm _ (.head _)
                · rcases List.mem_cons.mp hq with rfl | hq
                  · exact Nm _ (.tail _ (.head _))
                  · exact N₃ q hq
              refine wpAny_mono (Q := W1 x t base C p ⟨h2, g2, d2, tk, o2⟩) (E := fun _ _ => False) ?_ (fun f s4 h4 => ⟨h4.nxt, ?_⟩) (fun _ _ z => z)
              · clear F₂ F₃ N₃ Nm
                k_steps
                rename Fr _ _ _ _ => F9
                rename News _ _ _ _ => N9
                refine ⟨rfl, ⟨_, _, _, _, F9, rfl, rfl, rfl, rfl⟩, ⟨rfl, rfl, rfl, allBut_keep hb2 F9 N9 ?_, fun _ => let ⟨o, _, _, h, _⟩ := F9.ns; ⟨o, h⟩⟩⟩
                intro q hq
                repeat (first | exact hq | refine List.mem_cons_of_mem _ ?_)
              · obtain ⟨_, ⟨m4, ta, tb, tx, F5, e1, e2, e3, e4⟩, hs4⟩ := h4
                obtain ⟨h4, g4, d4, t4, o4⟩ := s4
                have hb4 : Keep base h4 := F5.keep
                have N5 : News base C h4 (allBut base C h4) := allBut_news
                have F6 := Fr.know (Fr.know (Fr.know F5 e2) (show (fun z => if z = Str.ofString "start" then some (Value.int (p : Int) ta) else m4 z) (Str.ofString "end") = _ from e3)) (show (fun z => if z = Str.ofString "end" then some (Value.int (wend x.cps p : Int) tb) else if z = Str.ofString "start" then some (Value.int (p : Int) ta) else m4 z) (Str.ofString "word") = _ from e4)
                refine wpAny_mono (Q := W2 x t base C p ⟨h4, g4, d4, t4, o4⟩) (E := fun _ _ => False) ?_ (fun v s5 h5 => ?_) (fun _ _ z => z)
                · clear F₂ F₃ N₃ Nm F₄ F5
                  k_steps
                  rename Fr _ _ _ _ => F9
                  rename News _ _ _ _ => N9
                  rename_i l9
                  refine ⟨⟨_, _, _, _, rfl, (N9 _ (.head _)).1, ?_, (N9 _ (.head _)).2.1⟩, ⟨_, _, F9, e1, rfl⟩, ⟨rfl, rfl, rfl, allBut_keep hb4 F9 N9 fun q hq => .tail _ hq, fun _ => let ⟨o, _, _, h, _⟩ := F9.ns; ⟨o, h⟩⟩⟩
                  exact allBut_fresh (N9 _ (.head _)).2.2 (N9 _ (.head _)).2.1 l9
                · obtain ⟨⟨d, tta, ttb, ttx, rfl, ed, zd, nd⟩, ⟨m5, tc, F5', e5, e6⟩, hs5⟩ := h5
                  refine ⟨fun s₀ hs₀ => ⟨d, p, wend x.cps p, tta, ttb, ttx, ?_, rfl, ed, ?_⟩, Since.trans (Since.trans (show Since C ⟨h2, g2, d2, t2, o2⟩ ⟨h2, g2, d2, tk, o2⟩ from ⟨rfl, rfl, rfl, fun _ _ _ e => e, id⟩) hs4) hs5, (let ⟨o, _, _, h, _⟩ := F5'.ns; ⟨o, h⟩), fun s6 hb6 hc6 => ?_⟩
                  · rw [hWl]
                    simp
                  · cases q : s₀.heap.get? d with
                    | none => rfl
                    | some o =>
                      have h1 := hs₀.heap d o nd q
                      have h2' := hs4.heap d o nd h1
                      rw [zd] at h2'; cases h2'
                  · obtain ⟨h6, g6, d6, t6, o6⟩ := s6
                    have F6' : Fr base C h6 m5 := ⟨F5'.ns.at' hc6, hb6, F5'.above⟩
                    have N6 : News base C h6 (allBut base C h6) := allBut_news
                    have F7 := Fr.know (Fr.know F6' e5) (show (fun z => if z = Str.ofString "text" then some (Value.str x t) else m5 z) (Str.ofString "end") = _ from e6)
                    have hb6' : Keep base h6 := hb6
                    refine wpAny_mono (Q := WEnd x t W base C l'.length ⟨h6, g6, d6, t6, o6⟩) (E := fun _ _ => False) ?_ (fun f s7 h7 => ⟨h7.nxt, h7.inv, h7.since⟩) (fun _ _ z => z)
                    clear F₂ F₃ N₃ Nm F₄ F5 F6 F5' F6'
                    k_steps
                    rename Fr _ _ _ _ => F9
                    rename News _ _ _ _ => N9
                    have hwl := wend_le hp
                    refine call_any (p := wend x.cps p) rfl hrest (hKb.keeps F9.keep) hx hlen hwl (fun hl => ?_) (fun mo tu h' hl K9 z1 z2 y1 y2 => ?_)
                    · k_steps
                      rename Fr _ _ _ _ => F9
                      rename News _ _ _ _ => N9
                      exact ⟨rfl, ⟨wend x.cps p, l', pre ++ [(p, wend x.cps p)], _, by rw [hWl]; simp, rfl, hrest, hwl, F9, rfl, .inl ⟨hl, rfl⟩⟩, ⟨rfl, rfl, rfl, allBut_keep hb6' F9 N9 fun p hp => hp, fun _ => let ⟨o, _, _, h, _⟩ := F9.ns; ⟨o, h⟩⟩⟩
                    · have N7 := News.add F9 y1 z1 (News.add F9 y2 z2 (News.grown N9 K9))
                      have F7 := Fr.keeps F9 K9
                      clear F9 N9
                      k_steps
                      rename Fr _ _ _ _ => F9
                      rename News _ _ _ _ => N9
                      exact ⟨rfl, ⟨wend x.cps p, l', pre ++ [(p, wend x.cps p)], _, by rw [hWl]; simp, rfl, hrest, hwl, F9, rfl, .inr ⟨hl, mo, tu, rfl, fun p hp => N9 p (by
                        rcases List.mem_cons.mp hp with rfl | hp
                        · exact .head _
                        · rw [List.mem_singleton.mp hp]; exact .tail _ (.head _))⟩⟩, ⟨rfl, rfl, rfl, allBut_keep hb6' F9 N9 fun p hp => .tail _ (.tail _ hp), fun _ => let ⟨o, _, _, h, _⟩ := F9.ns; ⟨o, h⟩⟩⟩
      case rest =>
        intro s₀ s₁ hs
        exact seg_leaf (r := .ok .next) (seg_end (r := .ok (.ret .none)) ⟨rfl, rfl, hs.toW⟩)

end Mine
end
section
open PySem PySem.W PySem.W.X PySem.Calls PyProof.Rows
namespace Mine
section
variable {prog : Program} {w : World} {A : Around} {R : Result → Shared → Prop} {a C S : Addr} {g : Nat} {base h₀ : Heap} {x : Str} {W : List (Nat × Nat)} {d₀ : Drawn} {os₀ : OsState} {g₀ : Array GenState}
/-- the list S filled with the first words -/
structure Filled (x : Str) (W : List (Nat × Nat)) (base h₀ : Heap) (g₀ : Array GenState) (d₀ : Drawn) (os₀ : OsState) (C S : Addr) (g : Nat) (ds : List Addr) (c : Nat) (s : Shared) : Prop where
  keep : Keep base s.heap
  lst : s.heap.get? S = some { cls := .type "list", data := .seq (ds.map Value.ref).toArray c }
  it : ∀ (j : Nat) (d : Addr), ds[j]? = some d → (∃ a b ta tb tx, W[j]? = some (a, b) ∧ s.heap.get? d = some (tupObj a b ta tb x tx)) ∧ h₀.get? d = none ∧ d ≠ S ∧ d ≠ C
  old : ∀ b o, b ≠ C → b ≠ S → h₀.get? b = some o → s.heap.get? b = some o
  gens : GenOnlyQ g g₀ s.gens
  drawn : s.drawn = d₀
  os : s.os = os₀
theorem gl_loop (res : Value) (hh : A.in1.handled = none) (hl : base.NoLimit) (hroom : A.in1.depth < recursionLimit) (haC : a ≠ C) (haS : a ≠ S) (hSC : S ≠ C) (hC0 : base.get? C = none) (hS0 : base.get? S = none) (hC1 : ∃ o, h₀.get? C = some o) (hlen : W.length ≤ 1000)
    (hR : ∀ s' ds c, Filled x W base h₀ g₀ d₀ os₀ C S g ds c s' → ds.length = W.length → R (.ok (.ret res)) s') :
    ∀ (n : Nat) (s : Shared) (ds : List Addr) (c : Nat), ds.length + n = W.length → GAtF prog w A.in1 a g [C] [C] base (WIt x W) n s → Filled x W base h₀ g₀ d₀ os₀ C S g ds c s →
      codeAny (model prog w) A (.builtin "list.extend.loop" ⟨[.ref S, .ref a, res], []⟩) R s := by
  have e1000 : (1000 : Nat) ≤ sizeLine := by decide
  intro n
  induction n with
  | zero =>
    intro s ds c hn x' F
    refine codeAny_builtin PySem.F.entry_extend_loop ?_
    rw [Around.under_plainId PySem.F.plain_extend_loop _]
    show wpAny _ A.in1 (pyNext (.ref a) >>= _) _ _ s
    refine wpAny_bind (gatF_next hh (hl.keeps F.keep) hroom x' (fun _ h => h) F.keep (fun hm => haC (List.mem_singleton.mp hm)) (fun b hb => by rw [List.mem_singleton.mp hb]; exact hC0) (fun m v s' hm => by cases hm) (fun s' _ hk hg hd ho => ?_))
    refine wpAny_pure (hR s' ds c ⟨fun b o e => hk b o (fun hm => ?_) (F.keep b o e), hk _ _ (fun hm => hSC (List.mem_singleton.mp hm)) F.lst, fun j d hj => ?_, fun b o n1 n2 e => hk b o (fun hm => n1 (List.mem_singleton.mp hm)) (F.old b o n1 n2 e), GenOnlyQ.trans F.gens hg, hd.trans F.drawn, ho.trans F.os⟩ (by omega))
    · rw [List.mem_singleton.mp hm, hC0] at e; cases e
    · obtain ⟨⟨a1, b1, ta, tb, tx, h1, h2⟩, h3, h4, h5⟩ := F.it j d hj
      exact ⟨⟨a1, b1, ta, tb, tx, h1, hk _ _ (fun hm => h5 (List.mem_singleton.mp hm)) h2⟩, h3, h4, h5⟩
  | succ n ih =>
    intro s ds c hn x' F
    refine codeAny_builtin PySem.F.entry_extend_loop ?_
    rw [Around.under_plainId PySem.F.plain_extend_loop _]
    show wpAny _ A.in1 (pyNext (.ref a) >>= _) _ _ s
    refine wpAny_bind (gatF_next hh (hl.keeps F.keep) hroom x' (fun _ h => h) F.keep (fun hm => haC (List.mem_singleton.mp hm)) (fun b hb => by rw [List.mem_singleton.mp hb]; exact hC0) (fun m v s' hm hit y hk hg hd ho => ?_) (fun s' hm => by cases hm))
    cases hm
    have hS' := hk _ _ (fun hm => hSC (List.mem_singleton.mp hm)) F.lst
    show wpAny _ A.in1 (updateSeq S (·.push v) >>= _) _ _ _
    refine wpAny_bind ?_
    have hds : (ds.map Value.ref).toArray.size = ds.length := by simp
    refine wpAny_updateSeq hS' rfl (wpAny_pure ⟨plainId_quiet PySem.F.plain_extend_loop _, ?_⟩) (by rw [hds]; omega) (by show (Array.push _ v).size ≤ sizeLine + 1; rw [Array.size_push, hds]; omega)
    obtain ⟨d, a1, b1, ta, tb, tx, hW, rfl, hd1, hd0⟩ := hit
    have hj : W.length - 1 - n = ds.length := by omega
    rw [hj] at hW
    have oth : ∀ b o, b ≠ S → s'.heap.get? b = some o → (s'.heap.update S (Obj.mapSeq (·.push (Value.ref d)))).get? b = some o := fun b o hb e => (Heap.get?_update_other _ _ (Ne.symm hb)).trans e
    have hdS : d ≠ S := fun e => by rw [e, F.lst] at hd0; cases hd0
    have hdC : d ≠ C := fun e => by
      obtain ⟨o, h1⟩ := hC1
      obtain ⟨_, hex, _⟩ := x'
      obtain ⟨o2, h2⟩ := hex C (by simp)
      rw [e, h2] at hd0; cases hd0
    have hdh : h₀.get? d = none := by
      cases q : h₀.get? d with
      | none => rfl
      | some o => have := F.old d o hdC hdS q; rw [hd0] at this; cases this
    refine ih _ (ds ++ [d]) (c + 1) (by rw [List.length_append, List.length_singleton]; omega) (y.keeps (fun o e => oth a o haS e) (fun b hb o e => by rw [List.mem_singleton.mp hb] at e ⊢; exact oth C o (Ne.symm hSC) e) (fun z e => e)) ⟨fun b o e => oth b o (fun q => ?_) (hk b o (fun hm => ?_) (F.keep b o e)), ?_, fun j d' hj' => ?_, fun b o n1 n2 e => oth b o n2 (hk b o (fun hm => n1 (List.mem_singleton.mp hm)) (F.old b o n1 n2 e)), GenOnlyQ.trans F.gens hg, hd.trans F.drawn, ho.trans F.os⟩
    · rw [q, hS0] at e; cases e
    · rw [List.mem_singleton.mp hm, hC0] at e; cases e
    · have h5 := Heap.get?_update_self (Obj.mapSeq (·.push (Value.ref d))) hS' (by rw [mapSeq_push]; rfl)
      rw [mapSeq_push] at h5
      rw [show ((ds ++ [d]).map Value.ref).toArray = (ds.map Value.ref).toArray.push (.ref d) by simp]
      exact h5
    · rcases Nat.lt_or_ge j ds.length with hj1 | hj1
      · rw [List.getElem?_append_left hj1] at hj'
        obtain ⟨⟨a1, b1, ta, tb, tx, h1, h2⟩, h3, h4, h5⟩ := F.it j d' hj'
        exact ⟨⟨a1, b1, ta, tb, tx, h1, oth _ _ h4 (hk _ _ (fun hm => h5 (List.mem_singleton.mp hm)) h2)⟩, h3, h4, h5⟩
      · rw [List.getElem?_append_right hj1] at hj'
        have hj0 : j - ds.length = 0 := by
          rcases Nat.eq_zero_or_pos (j - ds.length) with h | h
          · exact h
          · rw [List.getElem?_eq_none (by simp; omega)] at hj'; cases hj'
        rw [hj0] at hj'
        cases hj'
        have hjj : j = ds.length := by omega
        exact ⟨⟨a1, b1, ta, tb, tx, hjj ▸ hW, oth _ _ hdS hd1⟩, hdh, hdS, hdC⟩
/-- list(words(..)) -/
theorem gl_list {E : Value → Shared → Prop} {s : Shared} {Q : Value → Shared → Prop} (hh : A.handled = none) (hl : base.NoLimit) (hroom : A.in1.in1.depth < recursionLimit) (hb : Keep base s.heap) (haC : a ≠ C) (hC0 : base.get? C = none) (hlen : W.length ≤ 1000)
    (x' : GAtF prog w A.in1.in1 a g [C] [C] base (WIt x W) W.length s)
    (hQ : ∀ D ds c s', (∀ b o, b ≠ C → s.heap.get? b = some o → s'.heap.get? b = some o) → WordsHere x W s.heap s'.heap D ds c → GenOnlyQ g s.gens s'.gens → s'.drawn = s.drawn → s'.os = s.os → Q (.ref D) s') :
    wpAny (model prog w) A (call (.type "list") [.ref a]) Q E s := by
  obtain ⟨hgen, hex, _⟩ := id x'
  obtain ⟨oC, hoC⟩ := hex C (by simp)
  obtain ⟨oa, _, _, hoa, _⟩ := id hgen
  have hSC : s.heap.objs.size ≠ C := fun e => Nat.lt_irrefl _ (e ▸ Heap.lt_size hoC)
  have haS : a ≠ s.heap.objs.size := fun e => Nat.lt_irrefl _ (e ▸ Heap.lt_size hoa)
  have hS0 : base.get? s.heap.objs.size = none := by
    cases q : base.get? s.heap.objs.size with
    | none => rfl
    | some o => exact absurd (Heap.lt_size (hb _ o q)) (Nat.lt_irrefl _)
  have hSn : s.heap.get? s.heap.objs.size = none := Heap.get?_none_of_le (Nat.le_refl _)
  refine callType_codes (Q₁ := fun obj s₁ => obj = .ref s.heap.objs.size ∧ s₁ = { s with heap := s.heap.push { cls := .type "list", data := .seq #[] } }) PySem.F.called_list (PySem.F.typeCall_list_1 _) PySem.F.entry_list_init
    (code_list_new _ ⟨rfl, rfl⟩) fun obj s₁ h₁ => ?_
  obtain ⟨rfl, rfl⟩ := h₁
  have hS : (s.heap.push { cls := .type "list", data := .seq #[] }).get? s.heap.objs.size = some { cls := .type "list", data := .seq #[] } := Heap.get?_push_size _ rfl
  have k1 : Keep s.heap (s.heap.push { cls := .type "list", data := .seq #[] }) := fun b o e => Heap.get?_push_of_some _ e
  refine ⟨⟨_, hS, rfl⟩, PySem.F.args_list_init_2 _ _, ?_⟩
  show wpAny _ A.in1.in1 (do let old ← Builtin.List.listItems (.ref s.heap.objs.size); Builtin.List.listUpdate (.ref s.heap.objs.size) (fun _ => #[]); letGo old.toList.reverse; Builtin.List.listExtendWith (.ref s.heap.objs.size) (.ref a) .none) _ _ _
  refine wpAny_bind ?_
  unfold Builtin.List.listItems
  refine wpAny_bind (wpAny_seqItems hS rfl (wpAny_pure ?_))
  show wpAny _ A.in1.in1 (updateSeq s.heap.objs.size (fun _ => #[]) >>= fun _ => letGo (#[] : Array Value).toList.reverse >>= fun _ => Builtin.List.listExtendWith (.ref s.heap.objs.size) (.ref a) .none) _ _ _
  refine wpAny_bind (wpAny_updateSeq hS rfl ?_)
  have hS₂ := Heap.get?_update_self (Obj.mapSeq (fun _ => (#[] : Array Value))) hS rfl
  have oth : ∀ b o, b ≠ s.heap.objs.size → s.heap.get? b = some o → ((s.heap.push { cls := .type "list", data := .seq #[] }).update s.heap.objs.size (Obj.mapSeq (fun _ => (#[] : Array Value)))).get? b = some o :=
    fun b o hb e => (Heap.get?_update_other _ _ (Ne.symm hb)).trans (k1 b o e)
  refine wpAny_bind (wpAny_letGo ?_)
  generalize hH : (s.heap.push { cls := .type "list", data := .seq #[] }).update s.heap.objs.size (Obj.mapSeq (fun _ => (#[] : Array Value))) = H at hS₂ oth ⊢
  have hTa : ∀ (gs : Array GenState) (dr : Drawn) (tk : Nat) (os : OsState) (h : Heap), (∀ o, s.heap.get? a = some o → h.get? a = some o) → (⟨h, gs, dr, tk, os⟩ : Shared).TypeIs (.ref a) "generator" := fun gs dr tk os h hk => by
    obtain ⟨o, nm, qn, h1, h2, _⟩ := id hgen
    exact ⟨o, hk _ h1, h2⟩
  have hkH : ∀ o, s.heap.get? a = some o → H.get? a = some o := fun o e => oth a o haS e
  unfold Builtin.List.listExtendWith
  refine wpAny_bind (wpAny_typeOf (hTa _ _ _ _ _ hkH) ?_)
  have h1 : Builtin.List.listSameRef (.ref s.heap.objs.size) (.ref a) = false := by simp [Builtin.List.listSameRef, Ne.symm haS]
  have h2 : (Value.type "generator" == Value.type "list") = false := by decide
  have h3 : (Value.type "generator" == Value.type "tuple") = false := by decide
  simp only [h1, h2, h3, Bool.or_false, Bool.false_eq_true, if_false]
  have hgH : H.IsGen a g := let ⟨o, nm, qn, e1, r⟩ := hgen; ⟨o, nm, qn, hkH _ e1, r⟩
  refine wpAny_bind (wpAny_pyIter_gen hgH ?_)
  refine wpAny_bind (wpAny_holding ?_)
  unfold Builtin.List.listLengthHint
  refine wpAny_bind (wpAny_specialOf (hTa _ _ _ _ _ hkH) PySem.F.gen_no_len ?_)
  show wpAny _ A.in1.in1 (specialOf (Value.ref a) (Str.ofString "__length_hint__") >>= _) _ _ _
  refine wpAny_bind (wpAny_specialOf (hTa _ _ _ _ _ hkH) PySem.F.gen_no_hint ?_)
  refine wpAny_pure ?_
  show wpAny _ A.in1.in1 (rule "list.extend.makes-room" >>= fun _ => Builtin.List.listTouch (.ref s.heap.objs.size) >>= fun _ =>
    again (.builtin "list.extend.loop" ⟨[.ref s.heap.objs.size, .ref a, .none], []⟩)) _ _ _
  refine wpAny_bind (wpAny_rule ?_)
  refine wpAny_bind ?_
  show wpAny _ A.in1.in1 (updateSeq s.heap.objs.size (·.push .none) >>= fun _ => updateSeq s.heap.objs.size (·.pop)) _ _ _
  refine wpAny_bind (wpAny_updateSeq hS₂ rfl ?_)
  have hS₃ := Heap.get?_update_self (Obj.mapSeq (·.push Value.none)) hS₂ rfl
  refine wpAny_updateSeq (hz := by seq_fits) hS₃ rfl ?_
  have hS₄ := Heap.get?_update_self (Obj.mapSeq (·.pop)) hS₃ rfl
  have oth2 : ∀ b o, b ≠ s.heap.objs.size → H.get? b = some o → ((H.update s.heap.objs.size (Obj.mapSeq (·.push Value.none))).update s.heap.objs.size (Obj.mapSeq (·.pop))).get? b = some o :=
    fun b o hb e => (Heap.get?_update_other _ _ (Ne.symm hb)).trans ((Heap.get?_update_other _ _ (Ne.symm hb)).trans e)
  have oth3 := fun b o hb e => oth2 b o hb (oth b o hb e)
  refine wpAny_pure ⟨plainId_quiet PySem.F.plain_extend_loop _, gl_loop (A := A.in1) (base := base) (h₀ := s.heap) (g₀ := s.gens) (d₀ := s.drawn) (os₀ := s.os) .none hh hl hroom haC haS hSC hC0 hS0 ⟨oC, hoC⟩ hlen (fun s' ds c F hds => ?_) W.length _ [] _ (by simp) (x'.keeps (fun o e => oth3 a o haS e) (fun b hb o e => by rw [List.mem_singleton.mp hb] at e ⊢; exact oth3 C o (Ne.symm hSC) e) (fun z e => e))
    ⟨fun b o e => oth3 b o (fun q => by rw [q, hS0] at e; cases e) (hb b o e), hS₄, (fun j d hj => by simp at hj), fun b o n1 n2 e => oth3 b o n2 e, .inl rfl, rfl, rfl⟩⟩
  refine ⟨rfl, hQ s.heap.objs.size ds c s' (fun b o n e => F.old b o n (fun q => by rw [q, hSn] at e; cases e) e) ⟨F.lst, hSn, hds, fun j d hj => ?_⟩ F.gens F.drawn F.os⟩
  obtain ⟨h1, h2, h3, _⟩ := F.it j d hj
  exact ⟨h1, h2, h3⟩
end
end Mine
end
section
open PySem PySem.W PySem.W.X PySem.Calls PyProof.Rows PyProof.Rows.LCg
namespace Mine
section
variable {prog : Program} {w : World} {A : Around} {E : Value → Shared → Prop} {h₀ : Heap} {L : Addr} {m : Str → Option Value} {env : Env}
/-- the end of a test that is false -/
structure NoEnd (h₀ : Heap) (L : Addr) (m : Str → Option Value) (C D : Addr) (oC : Obj) (own : List (Addr × Obj)) (fp : List Addr) (J : List (Addr × Obj) → Array GenState → Prop) (d : Drawn) (os : OsState) (ok : Bool) (s' : Shared) : Prop where
  no : ok = false
  ex : ∃ h' tk' g' nx', s' = { heap := h', gens := g', drawn := d, toks := tk', os := os } ∧ Fr h₀ L h' m ∧ News h₀ L h' ((C, oC) :: (D, LCg.lst []) :: (nx' ++ own)) ∧ (∀ p ∈ nx', p.1 ∉ fp ∧ p.1 ≠ C ∧ p.1 ≠ D) ∧ J nx' g'
theorem block_N {ct elt iter : Expr} {x : Str} {px : Pos} {scope : Scope} {cl : List (Str × Addr)} {pos : Pos} {s₂ : Shared} {I : Addr} {fp : List Addr} {n : Nat} {P : Nat → Value → Prop} {St : Nat → Heap → Prop} {news : List (Addr × Obj)} (J : List (Addr × Obj) → Array GenState → Prop)
    {RR : Value → Addr → Result → Shared → Prop}
    (W : Walks prog w A I fp [I] n P St) (hob : ∀ i h, St i h → ∀ b ∈ fp, ∃ o, h.get? b = some o)
    (hcell : ∀ y ∈ scope.names, y.2 ≠ .cell) (hkind : scope.kind = .function) (hx : scope.names.lookup x = some .local) (hst : St 0 s₂.heap) (hfp : ∀ b ∈ fp, b < s₂.heap.objs.size) (hf0 : ∀ b ∈ fp, h₀.get? b = none)
    (F : Fr h₀ L s₂.heap m) (N : News h₀ L s₂.heap news) (hLf : L ∉ fp) (off : ∀ p ∈ news, p.1 ∉ fp) (hJ : J news s₂.gens)
    (test : ∀ i v nx h tk g own C oC D m₂ (E' : Value → Shared → Prop), i < n → P i v → J nx g → NsObj oC m₂ → m₂ x = some v → Fr h₀ L h m → News h₀ L h ((C, oC) :: (D, LCg.lst []) :: (nx ++ own)) → (∀ p ∈ nx, p.1 ∉ fp ∧ p.1 ≠ C ∧ p.1 ≠ D) → (∀ p ∈ own, p.1 ∈ fp ∧ p.1 ≠ C ∧ p.1 ≠ D) → @Ne Nat C D →
      wpAny (model prog w) A (isTrue ct (compEnvC scope cl C env) (eval ct (compEnvC scope cl C env))) (NoEnd h₀ L m C D oC own fp J s₂.drawn s₂.os) E' { heap := h, gens := g, drawn := s₂.drawn, toks := tk, os := s₂.os })
    (hRR : ∀ D C h tk g m' nx, Fr h₀ L h m → News h₀ L h ((D, LCg.lst []) :: nx) → h.Ns C m' → h₀.get? C = none → h₀.get? D = none → C ≠ L → D ≠ L → C ≠ D → (∀ p ∈ nx, p.1 ≠ C ∧ p.1 ≠ D) → J nx g → RR (.ref D) C (.ok .next) { heap := h, gens := g, drawn := s₂.drawn, toks := tk, os := s₂.os }) :
    wpAny (model prog w) A (newList []) (fun acc s₃ => wpAny (model prog w) A (newFunctionEnv scope env.globals cl [] env.qual none .none (some env)) (fun cenv s₄ =>
      codeAny (model prog w) A (.compStart (.ListComp elt [⟨.Name x px, iter, [ct], 0⟩] scope pos) 0 (.ref I) acc { cenv with scope := relabel scope env }) (RR acc cenv.locals) s₄) E s₃) E s₂ := by
  refine wpAny_newObj_type (wpAny_newFunctionEnv hcell (by intro y hy; simp at hy) (fun h₁ hns₁ hsb₁ => ?_) hkind)
  dsimp only at hns₁ hsb₁ ⊢
  generalize hH2 : s₂.heap.push { cls := .type "list", dict := none, data := .seq ([] : List Value).toArray } = H2 at hns₁ hsb₁ ⊢
  have hC : H2.objs.size = s₂.heap.objs.size + 1 := by rw [← hH2, Heap.size_push]
  have hDC : s₂.heap.objs.size ≠ H2.objs.size := by rw [hC]; exact Nat.ne_of_lt (Nat.lt_succ_self _)
  have below : ∀ b, b < s₂.heap.objs.size → b ≠ H2.objs.size ∧ b ≠ s₂.heap.objs.size := fun b hb => ⟨by rw [hC]; exact Nat.ne_of_lt (Nat.lt_succ_of_lt hb), Nat.ne_of_lt hb⟩
  have hDf : s₂.heap.objs.size ∉ fp := fun hm => Nat.lt_irrefl _ (hfp _ hm)
  have hCf : H2.objs.size ∉ fp := fun hm => by have := hfp _ hm; rw [hC] at this; exact Nat.lt_irrefl _ (Nat.lt_of_succ_lt this)
  have hIf : I ∈ fp := W.sub I (List.mem_singleton.mpr rfl)
  have hIlt : I < s₂.heap.objs.size := hfp I hIf
  have old : ∀ b o, s₂.heap.get? b = some o → h₁.get? b = some o := fun b o e => hsb₁.extBut b o (below b (Heap.lt_size e)).1 (Heap.get?_push_of_some _ (hH2 ▸ Heap.get?_push_of_some _ e))
  have hacc : h₁.get? s₂.heap.objs.size = some (LCg.lst []) := hsb₁.extBut _ _ hDC (Heap.get?_push_of_some _ (hH2 ▸ Heap.get?_push_size _ rfl))
  have hst₁ : St 0 h₁ := W.frame _ _ _ hst fun b _ o e => old b o e
  have fresh : ∀ a, s₂.heap.objs.size ≤ a → s₂.heap.get? a = none := fun a ha => Heap.get?_none_of_le ha
  have fresh₀ : ∀ a, s₂.heap.objs.size ≤ a → h₀.get? a = none := fun a ha => by
    cases e : h₀.get? a with
    | none => rfl
    | some o' => have := F.keep a o' e; rw [fresh a ha] at this; cases this
  have hD₀ : h₀.get? s₂.heap.objs.size = none := fresh₀ _ (Nat.le_refl _)
  have hC₀ : h₀.get? H2.objs.size = none := fresh₀ _ (by rw [hC]; exact Nat.le_succ _)
  have hLlt : L < s₂.heap.objs.size := F.ns.lt
  have hDL : s₂.heap.objs.size ≠ L := Ne.symm (below L hLlt).2
  have hCL : H2.objs.size ≠ L := Ne.symm (below L hLlt).1
  have hCI : I ≠ H2.objs.size := (below I hIlt).1
  have hDI : I ≠ s₂.heap.objs.size := (below I hIlt).2
  have hLI : L ≠ I := fun e => hLf (e ▸ hIf)
  have off₀ : ∀ p ∈ news, p.1 ∉ fp ∧ p.1 ≠ H2.objs.size ∧ p.1 ≠ s₂.heap.objs.size := fun p hp => ⟨off p hp, (below _ (Heap.lt_size (N p hp).1)).1, (below _ (Heap.lt_size (N p hp).1)).2⟩
  have loop : ∀ s₃ : Shared, s₃ = { s₂ with heap := h₁, toks := s₂.toks + ([] : List (Str × Value)).length } →
      codeAny (model prog w) A (.compLoop (.ListComp elt [⟨.Name x px, iter, [ct], 0⟩] scope pos) 0 (.ref I) (.ref s₂.heap.objs.size) (compEnvC scope cl H2.objs.size env))
        (RR (.ref s₂.heap.objs.size) H2.objs.size) s₃ := by
    rintro s₃ rfl
    refine codeAny_compLoop_tests
      (fun k s' => ∃ h' tk g' i m' nx', s' = { heap := h', gens := g', drawn := s₂.drawn, toks := tk, os := s₂.os } ∧ i ≤ n ∧ k = n + 1 - i ∧ St i h' ∧ Fr h₀ L h' m ∧ h'.Ns H2.objs.size m' ∧ News h₀ L h' ((s₂.heap.objs.size, LCg.lst []) :: nx') ∧
        (∀ p ∈ nx', p.1 ∉ fp ∧ p.1 ≠ H2.objs.size ∧ p.1 ≠ s₂.heap.objs.size) ∧ J nx' g') ?_ (n + 1)
      ⟨h₁, _, _, 0, _, news, rfl, Nat.zero_le _, rfl, hst₁, F.keeps old, hns₁, fun p hp => ?_, off₀, hJ⟩
    · rintro k s' ⟨h', tk, g', i, m', nx', rfl, hi, rfl, hst', F', hn', N', off', hJ'⟩
      by_cases hlt : i < n
      · refine W.item i _ _ _ hlt hst' fun v h₂ tk₂ hPv hst₂ hk₂ => ?_
        refine wpAny_assign_Name (wpAny_storeName_local (lookup_relabel_local hx) (hn'.at' fun o e => hk₂ _ o (by simpa using Ne.symm hCI) e) (fun h₃ hn₃ hs₃ => ?_) (by simp [compEnvC, relabel, hkind]))
        refine wpAny_tests_one ?_
        have hst₃ : St (i + 1) h₃ := W.frame _ _ _ hst₂ fun b hb o e => hs₃.extBut b o (fun q => hCf (by have q' : b = H2.objs.size := q; rw [← q']; exact hb)) e
        obtain ⟨oC, heC, hoC⟩ := ns_obj hn₃
        have F₂ : Fr h₀ L h₂ m := fr_but F' hk₂ hLI (hf0 I hIf)
        have F₃ : Fr h₀ L h₃ m := F₂.change hs₃ hCL hC₀
        have N₂ : News h₀ L h₂ ((s₂.heap.objs.size, LCg.lst []) :: nx') := news_but N' hk₂ fun p hp => by
          rcases List.mem_cons.mp hp with rfl | hp
          · exact Ne.symm hDI
          · exact fun e => (off' p hp).1 (e ▸ hIf)
        have Nown : News h₀ L h₃ (ownOf h₀ fp h₃) := news_ownOf hLf
        have N₃ : News h₀ L h₃ ((H2.objs.size, oC) :: (s₂.heap.objs.size, LCg.lst []) :: (nx' ++ ownOf h₀ fp h₃)) := fun p hp => by
          rcases List.mem_cons.mp hp with rfl | hp
          · exact ⟨heC, hCL, hC₀⟩
          · rcases List.mem_cons.mp hp with rfl | hp
            · have z := N₂ _ (.head _)
              exact ⟨hs₃.extBut _ _ hDC z.1, z.2⟩
            · rcases List.mem_append.mp hp with hp | hp
              · have z := N₂ p (.tail _ hp)
                exact ⟨hs₃.extBut _ _ (off' p hp).2.1 z.1, z.2⟩
              · exact Nown p hp
        refine wpAny_mono (test i v nx' h₃ _ g' (ownOf h₀ fp h₃) H2.objs.size oC s₂.heap.objs.size _ _ hlt hPv hJ' hoC (by simp) F₃ N₃ off' (fun p hp => ⟨ownOf_sub p hp, fun e => hCf (e ▸ ownOf_sub p hp), fun e => hDf (e ▸ ownOf_sub p hp)⟩) (Ne.symm hDC)) (fun ok s₄ h₄ => ?_) fun _ _ e => e
        obtain ⟨rfl, h₅, tk₅, g₅, nx₅, rfl, F₅, N₅, off₅, hJ₅⟩ := h₄
        simp only [Bool.false_eq_true, if_false]
        have hst₅ : St (i + 1) h₅ := W.frame _ _ _ hst₃ fun b hb o e => (N₅ (b, o) (.tail _ (.tail _ (List.mem_append_right _ (mem_ownOf hb (hf0 b hb) e))))).1
        refine ⟨n + 1 - (i + 1), by omega, h₅, tk₅, g₅, i + 1, _, nx₅, rfl, hlt, rfl, hst₅, F₅, hoC.ns (N₅ _ (.head _)).1, fun p hp => ?_, off₅, hJ₅⟩
        rcases List.mem_cons.mp hp with rfl | hp
        · exact N₅ _ (.tail _ (.head _))
        · exact N₅ p (.tail _ (.tail _ (List.mem_append_left _ hp)))
      · obtain rfl : i = n := Nat.le_antisymm hi (Nat.not_lt.mp hlt)
        refine W.done _ _ _ hst' fun h₂ tk₂ hk₂ => ?_
        exact hRR _ _ h₂ tk₂ g' _ nx' (fr_but F' hk₂ hLI (hf0 I hIf)) (news_but N' hk₂ fun p hp => by
          rcases List.mem_cons.mp hp with rfl | hp
          · exact Ne.symm hDI
          · exact fun e => (off' p hp).1 (e ▸ hIf)) (hn'.at' fun o e => hk₂ _ o (by simpa using Ne.symm hCI) e) hC₀ hD₀ hCL hDL (Ne.symm hDC) (fun p hp => (off' p hp).2) hJ'
    · rcases List.mem_cons.mp hp with rfl | hp
      · exact ⟨hacc, hDL, hD₀⟩
      · exact ⟨old _ _ (N p hp).1, (N p hp).2⟩
  exact codeAny_compStart_list (loop _ rfl) (W.self 0 _ _ _ hst₁ (loop _ rfl))
/-- a comprehension over a list of the call's own, whose test is never true -/
def SrcN (prog : Program) (w : World) (A : Around) (h₀ : Heap) (L : Addr) (m : Str → Option Value) (env : Env) (ct : Expr) (x : Str) (scope : Scope) (cl : List (Str × Addr)) (Q : Value → Shared → Prop) (xv : Value) (s₁ : Shared) : Prop :=
  ∃ (l : Addr) (items : Array Value) (k : Nat) (news : List (Addr × Obj)) (J : List (Addr × Obj) → Array GenState → Prop), xv = .ref l ∧ A.handled = none ∧ Fr h₀ L s₁.heap m ∧ News h₀ L s₁.heap ((l, PySem.W.listOf items k) :: news) ∧ (∀ p ∈ news, p.1 ≠ l) ∧ J news s₁.gens ∧
    (∀ (I : Addr) (i : Nat) (v : Value) (nx : List (Addr × Obj)) (h : Heap) (tk : Nat) (g : Array GenState) (own : List (Addr × Obj)) (C : Addr) (oC : Obj) (D : Addr) (m₂ : Str → Option Value) (E' : Value → Shared → Prop), items[i]? = some v → J nx g → NsObj oC m₂ → m₂ x = some v → Fr h₀ L h m → News h₀ L h ((C, oC) :: (D, LCg.lst []) :: (nx ++ own)) → (∀ p ∈ nx, p.1 ∉ [I, l] ∧ p.1 ≠ C ∧ p.1 ≠ D) → (∀ p ∈ own, p.1 ∈ [I, l] ∧ p.1 ≠ C ∧ p.1 ≠ D) → @Ne Nat C D →
      wpAny (model prog w) A (isTrue ct (compEnvC scope cl C env) (eval ct (compEnvC scope cl C env))) (NoEnd h₀ L m C D oC own [I, l] J s₁.drawn s₁.os) E' { heap := h, gens := g, drawn := s₁.drawn, toks := tk, os := s₁.os }) ∧
    (∀ (D : Addr) (h : Heap) (tk : Nat) (g : Array GenState) (nx : List (Addr × Obj)), Fr h₀ L h m → News h₀ L h ((D, LCg.lst []) :: nx) → J nx g → Q (.ref D) { heap := h, gens := g, drawn := s₁.drawn, toks := tk, os := s₁.os })
theorem ListComp_N {s : Shared} {ct elt iter : Expr} {x : Str} {px : Pos} {scope : Scope} {cl : List (Str × Addr)} {pos : Pos} {Q : Value → Shared → Prop} (F₀ : Fr h₀ L s.heap m)
    (hclos : closureFor scope env = pure cl) (hcell : ∀ y ∈ scope.names, y.2 ≠ .cell) (hkind : scope.kind = .function)
    (hnames : ∀ y ∈ scope.names, y.2 = .local → scope.names.lookup y.1 = some .local) (hx : scope.names.lookup x = some .local)
    (h : wpAny (model prog w) A (eval iter env) (SrcN prog w A h₀ L m env ct x scope cl Q) E s)
    (hs : ∀ x, foldedSetIterable iter env x = pure x := by intro _; rfl) :
    wpAny (model prog w) A (eval (.ListComp elt [⟨.Name x px, iter, [ct], 0⟩] scope pos) env) Q E s := by
  rw [eval_ListComp]
  refine wpAny_comprehension_free (use := none) rfl hs hclos hkind hnames (wpAny_mono h (fun xv s₁ h₁ => ?_) fun _ _ e => e)
  obtain ⟨l, items, k, news, J, rfl, hh, F, N, off, hJ, test, done⟩ := h₁
  have hol := (N _ (.head _)).1
  have hlt : l < s₁.heap.objs.size := Heap.lt_size hol
  have hne : l ≠ s₁.heap.objs.size := Nat.ne_of_lt hlt
  have hls : s₁.heap.IsList l items := ⟨_, hol, rfl, k, rfl⟩
  refine wpAny_pyIter_list hls ?_
  refine block_N (news := news) J (Walks.list hh s₁.heap.objs.size l hne items) ?hob hcell hkind hx ⟨⟨_, Heap.get?_push_size _ rfl, rfl, rfl⟩, hls.at fun o e => Heap.get?_push_of_some _ e⟩ ?hfp ?hf0
    (F.push _) (fun p hp => ⟨Heap.get?_push_of_some _ (N p (.tail _ hp)).1, (N p (.tail _ hp)).2⟩) ?hLf ?off hJ (fun i v nx h tk g own C oC D m₂ E' hi hP hJ hC hx F N o1 o2 ne => test _ i v nx h tk g own C oC D m₂ E' hP hJ hC hx F N o1 o2 ne) ?_
  case hob =>
    rintro i h ⟨⟨o1, e1, _⟩, ⟨o2, e2, _⟩⟩ b hb
    rcases List.mem_cons.mp hb with rfl | hb
    · exact ⟨o1, e1⟩
    · rw [List.mem_singleton.mp hb]; exact ⟨o2, e2⟩
  case hfp =>
    intro b hb
    show b < (s₁.heap.push _).objs.size
    rw [Heap.size_push]
    rcases List.mem_cons.mp hb with rfl | hb
    · exact Nat.lt_succ_self _
    · rw [List.mem_singleton.mp hb]; exact Nat.lt_succ_of_lt hlt
  case hf0 =>
    intro b hb
    rcases List.mem_cons.mp hb with rfl | hb
    · exact next_is_new F
    · rw [List.mem_singleton.mp hb]; exact (N _ (.head _)).2.2
  case hLf =>
    intro hm
    rcases List.mem_cons.mp hm with e | hm
    · exact absurd F.ns.lt (e ▸ Nat.lt_irrefl _)
    · exact (N _ (.head _)).2.1 (List.mem_singleton.mp hm).symm
  case off =>
    intro p hp hm
    rcases List.mem_cons.mp hm with e | hm
    · exact absurd (Heap.lt_size (N p (.tail _ hp)).1) (e ▸ Nat.lt_irrefl _)
    · exact off p hp (List.mem_singleton.mp hm)
  · intro D C h tk g m' nx F' N' hn hC₀ hD₀ hCL hDL hCD offC hJ'
    refine ⟨m', hn, fun h'' hs'' => done D h'' tk g nx (F'.change hs'' hCL hC₀) (fun p hp => ?_) hJ'⟩
    refine ⟨hs''.extBut _ _ ?_ (N' p hp).1, (N' p hp).2⟩
    rcases List.mem_cons.mp hp with rfl | hp
    · exact Ne.symm hCD
    · exact (offC p hp).1
end
end Mine
end
section
open PySem PySem.W PySem.W.X PySem.Calls PyProof.Rows
namespace Mine
theorem words_ex (t : Array Nat) : ∀ (n p : Nat), t.size - p ≤ n → ∃ l, WordsAt t p l
  | 0, p, h => ⟨[], .nil (by rw [cnt_end nsp (by omega)])⟩
  | n + 1, p, h => by
    rcases Nat.eq_zero_or_pos (cnt nsp t (p + cnt isp t p)) with hc | hc
    · exact ⟨[], .nil hc⟩
    · have hp : p < t.size := by
        rcases Nat.lt_or_ge p t.size with h | h
        · exact h
        · rw [cnt_end nsp (by omega)] at hc; omega
      have hw : p < wend t p := by unfold wend; omega
      obtain ⟨l, hl⟩ := words_ex t n (wend t p) (by omega)
      exact ⟨_, .cons hp hc hl⟩
theorem words_len {t : Array Nat} {p : Nat} {l : List (Nat × Nat)} (h : WordsAt t p l) : p ≤ t.size → l.length + p ≤ t.size := by
  induction h with
  | nil _ => intro h; simpa using h
  | @cons p l h1 h2 h3 ih =>
    intro hp
    have hw : p < wend t p := by unfold wend; omega
    have := ih (wend_le hp)
    rw [List.length_cons]; omega
/-- the words as they lie in a heap -/
def WordsLie (x : Str) (W : List (Nat × Nat)) (h : Heap) (D : Addr) (ds : List Addr) : Prop :=
  ∃ k, h.get? D = some (PySem.W.listOf (ds.map Value.ref).toArray k) ∧ ds.length = W.length ∧ ∀ (j : Nat) (d : Addr), ds[j]? = some d → ∃ a b ta tb tx, W[j]? = some (a, b) ∧ h.get? d = some (tupObj a b ta tb x tx)
def wdat (x : Str) (W : List (Nat × Nat)) : List Dat := W.map fun p => Dat.tuple [.int p.1, .int p.2, .str ⟨x.cps.extract p.1 p.2⟩]
theorem datAll_of {x : Str} {news : List (Addr × Obj)} : ∀ (W : List (Nat × Nat)) (ds : List Addr), ds.length = W.length → (∀ (j : Nat) (d : Addr), ds[j]? = some d → ∃ a b ta tb tx, W[j]? = some (a, b) ∧ (d, tupObj a b ta tb x tx) ∈ news) → DatAll news (ds.map Value.ref) (wdat x W)
  | [], [], _, _ => .nil
  | [], _ :: _, h, _ => by simp at h
  | _ :: _, [], h, _ => by simp at h
  | p :: W, d :: ds, h, hj => by
    obtain ⟨a, b, ta, tb, tx, h1, h2⟩ := hj 0 d rfl
    have h1' : p = (a, b) := Option.some.inj h1
    subst h1'
    exact .cons (.tuple (vs := [.int a ta, .int b tb, .str ⟨x.cps.extract a b⟩ tx]) h2 (.cons (.int _ _) (.cons (.int _ _) (.cons (.str _ _) .nil)))) (datAll_of W ds (by simpa using h) fun j d hd => hj (j + 1) d (by simpa using hd))
theorem strOk_of {x : Str} (h : okx x) : PyData.strOk x = true := by
  unfold PyData.strOk
  rw [← Array.all_toList]
  refine List.all_eq_true.mpr fun c hc => ?_
  rcases h c hc with h | h <;> simp <;> omega
theorem words_ne {prog : Program} {w : World} {A : Around} {E : Value → Shared → Prop} {s : Shared} {Q : Value → Shared → Prop} {x : Str} {W : List (Nat × Nat)} {D₁ D₂ : Addr} {d₁ d₂ : List Addr} (hok : okx x) (h1 : WordsLie x W s.heap D₁ d₁) (h2 : WordsLie x W s.heap D₂ d₂) (hu : A.units + 64 < cLine)
    (h : Q (.bool false) s) : wpAny (model prog w) A (compareOp .NotEq (.ref D₁) (.ref D₂)) Q E s := by
  obtain ⟨k1, e1, l1, i1⟩ := h1
  obtain ⟨k2, e2, l2, i2⟩ := h2
  have none0 : ∀ b, ({ s.heap with objs := #[] } : Heap).get? b = none := fun b => Heap.get?_none_of_le (Nat.zero_le _)
  have hlt : ∀ {b o}, s.heap.get? b = some o → b < s.heap.objs.size := fun e => Heap.lt_size e
  have N : News ({ s.heap with objs := #[] } : Heap) s.heap.objs.size s.heap (ownOf { s.heap with objs := #[] } (D₁ :: D₂ :: (d₁ ++ d₂)) s.heap) := news_ownOf fun hm => by
    rcases List.mem_cons.mp hm with e | hm
    · exact Nat.lt_irrefl _ (by have := hlt e1; rw [← e] at this; exact this)
    · rcases List.mem_cons.mp hm with e | hm
      · exact Nat.lt_irrefl _ (by have := hlt e2; rw [← e] at this; exact this)
      · rcases List.mem_append.mp hm with hm | hm
        · obtain ⟨j, hj⟩ := List.mem_iff_getElem?.mp hm
          obtain ⟨_, _, _, _, _, _, e⟩ := i1 j _ hj
          exact Nat.lt_irrefl _ (hlt e)
        · obtain ⟨j, hj⟩ := List.mem_iff_getElem?.mp hm
          obtain ⟨_, _, _, _, _, _, e⟩ := i2 j _ hj
          exact Nat.lt_irrefl _ (hlt e)
  have hd : ∀ d ∈ wdat x W, kqdOk 8 d = true := fun d hd => by
    obtain ⟨p, _, rfl⟩ := List.mem_map.mp hd
    have := strOk_of (ex_ok hok p.1 p.2)
    simp [kqdOk, this]
  refine kqd_ne N (mem_ownOf (.head _) (none0 _) e1) rfl rfl (datAll_of W d₁ l1 fun j d hj => ?_) (fun _ h => h) (mem_ownOf (.tail _ (.head _)) (none0 _) e2) rfl rfl (datAll_of W d₂ l2 fun j d hj => ?_) (fun _ h => h) hd hd hu (by simpa using h)
  · obtain ⟨a, b, ta, tb, tx, hW, e⟩ := i1 j d hj
    exact ⟨a, b, ta, tb, tx, hW, mem_ownOf (.tail _ (.tail _ (List.mem_append_left _ (List.mem_of_getElem? hj)))) (none0 _) e⟩
  · obtain ⟨a, b, ta, tb, tx, hW, e⟩ := i2 j d hj
    exact ⟨a, b, ta, tb, tx, hW, mem_ownOf (.tail _ (.tail _ (List.mem_append_right _ (List.mem_of_getElem? hj)))) (none0 _) e⟩
theorem parts_len : ∀ (ps : List (List Nat)) (a : Nat) (f : List Nat) (u : Int), (∀ p ∈ ps, p ≠ []) → (parts a f u ps).1.length ≤ f.length + ps.flatten.length
  | [], _, _, _, _ => by show _ ≤ _; simp [parts]
  | p :: r, a, f, u, h => by
    have hp := List.length_pos_iff.mpr (h p (.head _))
    have ih := parts_len r (a + p.length) (if a = 0 then f else f ++ [a]) (sizeL p) fun q hq => h q (.tail _ hq)
    show (parts (a + p.length) (if a = 0 then f else f ++ [a]) (sizeL p) r).1.length ≤ _
    have h2 : (if a = 0 then f else f ++ [a]).length ≤ f.length + 1 := by split <;> simp
    rw [List.flatten_cons, List.length_append]
    omega
theorem brkStep_len {x : List Nat} {W : Int} {fold : Bool} {a b : Nat} {st : List Nat × Int} (hW : 2 ≤ W) (hab : a < b) (hb : b ≤ x.length) : (brkStep x W fold a b st).1.length ≤ st.1.length + (b - a) := by
  unfold brkStep
  split
  · show st.1.length ≤ _; omega
  · split
    · split
      · show (st.1 ++ [a]).length ≤ _; rw [List.length_append, List.length_singleton]; omega
      · omega
    · split
      · have := parts_len (chop W (seg x a b)) a st.1 st.2 fun p hp => (chop_fit hW _ p hp).1
        rw [chop_flat, seg_length hb] at this
        exact this
      · show (if a = 0 then st.1 else st.1 ++ [a]).length ≤ _
        split
        · omega
        · rw [List.length_append, List.length_singleton]; omega
theorem brks_len {t : Array Nat} {W : Int} {fold : Bool} (hW : 2 ≤ W) {p : Nat} {l : List (Nat × Nat)} (hw : WordsAt t p l) : ∀ st : List Nat × Int, p ≤ t.size → st.1.length ≤ p → (brks t.toList W fold l st).1.length ≤ t.size := by
  induction hw with
  | nil h => intro st h1 h2; show st.1.length ≤ _; omega
  | @cons p l h1 h2 h3 ih =>
    intro st hp hl
    have hle := wend_le hp
    have hab : p < wend t p := by unfold wend; omega
    have := brkStep_len (x := t.toList) (W := W) (fold := fold) (st := st) hW hab (by simpa using hle)
    exact ih _ hle (by show (brkStep t.toList W fold p (wend t p) st).1.length ≤ _; omega)
theorem c_wordsL (w : World) (mg mb) (x : Str) (t : Tok) (W : List (Nat × Nat)) (hW : WordsAt x.cps 0 W) (hx : okx x) (hlen : x.cps.size < 1000) (dp : Nat) (fr : Option (List Env)) (gd : Option (List Code)) (un : Nat) (s : Shared) (Q E : Value → Shared → Prop)
    (base : Heap) (hbase : Keep base s.heap) (hbsz : base.objs.size ≤ s.heap.objs.size) (hKb : (hd.heap_39 w.params).In base) (hTb : TopRead hd.view_39 LP mg mb base)
    (hdp : dp + 4 < 900) (hun : un + 80 < 9000)
    (hret : ∀ a C g h' tk gs, Keep s.heap h' → gs.bare = true → g = s.gens.size → GAtF PySem.Challenge.rw_ey0021_01.row.prog w (AA dp fr gd un).in1.in1 a g [C] [C] base (WIt x W) W.length { heap := h', gens := s.gens.push gs, drawn := s.drawn, toks := tk, os := s.os } → s.heap.get? a = none → s.heap.get? C = none → a ≠ C → s.heap.objs.size ≤ C →
      Q (.ref a) { heap := h', gens := s.gens.push gs, drawn := s.drawn, toks := tk, os := s.os }) :
    wpAny (model PySem.Challenge.rw_ey0021_01.row.prog w) (AA dp fr gd un) (call (.ref 258) [.str x t]) Q E s :=
  c_wordsF w mg mb x t W hW hx hlen dp fr gd un s Q E (AA dp fr gd un).in1.in1 rfl base hbase hbsz hKb hTb hdp hun hret
end Mine
end
section
open PySem PySem.W PySem.W.X PySem.Calls PyProof.Rows
namespace Mine
local macro_rules | `(tactic| k_room) => `(tactic| ((try simp only [depth_under_make, depth_under_kw, depth_in1, depth_deeper, depth_caller]); (simp only [recursionLimit] at *); omega))
local macro_rules | `(tactic| cell_enter) => `(tactic| first
  | (refine' pEnter [] ?k1 ?k2 ?k6 ?k7 ?k8 ?k9 ?kB ?_ ?c2 ?c3 ?c4 ?c5; (case k1 => k_asm); (case k2 => exact TopRead.nolimit (by assumption)); (case k6 => k_is); (case k7 => k_is); (case k8 => k_room); (case k9 => first | exact BindsTo.of_eq rfl | exact binds_K (by k_in) rfl (by k_is) rfl rfl rfl | fail "no rule for these arguments"); (case c5 => decide); (case kB => exact locs rfl); (case c2 => exact rfl); (case c3 => exact rfl); (case c4 => exact rfl); k_whole; intro h₁ L₁ hL₁ F₁ K₁; (rw [hideNil] at F₁); (have N₁ := newsNil F₁); (try dsimp only); (try k_fold))
  | (refine' pEnterC [] ?k1 ?k2 ?k6 ?k7 ?k8 ?k9 ?kB ?kD ?_ ?c2 ?c3 ?c4; (case k1 => k_asm); (case k2 => exact TopRead.nolimit (by assumption)); (case k6 => k_is); (case k7 => k_is); (case k8 => k_room); (case k9 => first | exact BindsTo.of_eq rfl | exact binds_K (by k_in) rfl (by k_is) rfl rfl rfl | fail "no rule for these arguments"); (case kB => exact rfl); (case kD => decide +kernel); (case c2 => exact rfl); (case c3 => exact rfl); (case c4 => exact rfl); k_whole; intro h₁ L₁ tk₁ cells₁ hL₁ F₁ N₁ Y₁ K₁ C₁; (rw [hideNil] at F₁ N₁); k_cells Y₁; (try simp only [List.cons_append, List.nil_append] at N₁); (try dsimp only); (try k_fold)))

theorem arr1 : (Str.ofString "ab cd").cps = #[97, 98, 32, 99, 100] := by kernel_rfl
theorem arr2 : (Str.ofString "abcdef g").cps = #[97, 98, 99, 100, 101, 102, 32, 103] := by kernel_rfl
theorem wa_of {t : Array Nat} {a b : Nat} (hp : 0 < t.size) (h1 : ¬ cnt nsp t (0 + cnt isp t 0) = 0) (e1 : wend t 0 = a) (hp2 : a < t.size) (h2 : ¬ cnt nsp t (a + cnt isp t a) = 0) (e2 : wend t a = b) (h3 : cnt nsp t (b + cnt isp t b) = 0) : WordsAt t 0 [(0, a), (a, b)] := by
  subst e1 e2
  exact .cons hp (Nat.pos_of_ne_zero h1) (.cons hp2 (Nat.pos_of_ne_zero h2) (.nil h3))
theorem wa1 : WordsAt (Str.ofString "ab cd").cps 0 [(0, 3), (3, 5)] := by
  rw [arr1]; exact wa_of (by decide +kernel) (by decide +kernel) (by decide +kernel) (by decide +kernel) (by decide +kernel) (by decide +kernel) (by decide +kernel)
theorem wa2 : WordsAt (Str.ofString "abcdef g").cps 0 [(0, 7), (7, 8)] := by
  rw [arr2]; exact wa_of (by decide +kernel) (by decide +kernel) (by decide +kernel) (by decide +kernel) (by decide +kernel) (by decide +kernel) (by decide +kernel)
theorem okL {x : Str} (h : x.cps.toList.all (fun c => (decide (32 ≤ c) && decide (c ≤ 126)) || decide (c = 20013)) = true) : okx x := fun c hc => by
  have := List.all_eq_true.mp h c hc
  simp only [Bool.or_eq_true, Bool.and_eq_true, decide_eq_true_eq] at this
  exact this
theorem ok1 : okx (Str.ofString "ab cd") := okL (by rw [arr1]; decide +kernel)
theorem ok2 : okx (Str.ofString "abcdef g") := okL (by rw [arr2]; decide +kernel)
theorem br1 : asInts (brks (Str.ofString "ab cd").cps.toList ((2 : Nat) : Int) true [(0, 3), (3, 5)] ([], 0)).1 = [3] := by rw [arr1]; decide +kernel
theorem br2 : asInts (brks (Str.ofString "abcdef g").cps.toList ((4 : Nat) : Int) true [(0, 7), (7, 8)] ([], 0)).1 = [4] := by rw [arr2]; decide +kernel
theorem br3 : asInts (brks (Str.ofString "abcdef g").cps.toList ((4 : Nat) : Int) false [(0, 7), (7, 8)] ([], 0)).1 = [7] := by rw [arr2]; decide +kernel
local macro_rules | `(tactic| walk_at "eval Name") => `(tactic| (k_here; (with_reducible show wpAny _ _ (eval (Expr.Name _ _) (compEnvC _ _ _ _)) _ _ _); k_dflt (first
  | refine comp_global (by k_asm) (by k_asm) (by k_asm) (by k_is) ?_
  | refine comp_built (by k_asm) (by k_asm) (by k_asm) (by k_is) (by boot_by_name) (by decide) ?_)))
local macro_rules | `(tactic| walk_at "exec For Name Call cons nil") => `(tactic| (k_here; (with_reducible show wpAny _ _ (exec (Stmt.For _ _ _ _ _) _) _ _ _); (refine' For_G ?_ (fun _ => rfl))))
local macro_rules | `(tactic| walk_at "exec For Name Call") => `(tactic| (k_here; (with_reducible show wpAny _ _ (exec (Stmt.For _ _ _ _ _) _) _ _ _); (refine' For_G ?_ (fun _ => rfl))))
local macro_rules | `(tactic| walk_at "exec For") => `(tactic| (k_here; (with_reducible show wpAny _ _ (exec (Stmt.For _ _ _ _ _) _) _ _ _); (refine' For_G ?_ (fun _ => rfl))))
local macro_rules | `(tactic| walk_at "call builtin:list.append") => `(tactic| (k_here; (with_reducible show wpAny _ _ (call (Value.builtin _) [Value.ref _, _]) _ _ _); k_dflt (refine' append_K ?k1 ?k2 ?k3 ?_ ?z; (case k1 => k_asm); (case k2 => k_asm); (case k3 => k_upd); (case z => ((try simp only [List.size_toArray, List.length_map]); (have e9 : (1000 : Nat) ≤ sizeLine := by decide); omega)); k_whole); intro h' F' N'; (try k_sweep)))
local macro_rules | `(tactic| walk_at "binaryOp Add ref ref") => `(tactic| (k_here; (with_reducible show wpAny _ _ (binaryOp _ (Value.ref _) (Value.ref _)) _ _ _); k_dflt (refine' kmk_add_ints ?F ?N ?a ?b ?i ?j ?_ ?z; (case F => k_asm); (case N => k_asm); (case a => kmk_list); (case b => kmk_list); (case i => first | assumption | l_ints); (case j => first | assumption | l_ints); (case z => ((try simp only [asInts_length, List.length_cons, List.length_nil, List.length_append]); (have e9 : (1000 : Nat) ≤ sizeLine := by decide); omega))); intro D' ws' h' F' N' l1 hI'; (try k_lt l1); (try k_sweep)))
theorem draw_next {goal : Prop} {h₀ h h' : Heap} {L a : Addr} {nx : List (Addr × Obj)} {g : Obj → List (Addr × Obj)} {o o' : Obj} (N : News h₀ L h nx) (U : UpdF a o nx g) (k : ∀ b x, b ≠ a → h.get? b = some x → h'.get? b = some x) (e : h'.get? a = some o') (c : News h₀ L h' (g o') → goal) : goal := c (News.upd N U k e)
/-- the loop that cuts the line, i pieces told -/
def TJ (x : Str) (tx : Tok) (fold : Bool) (B : List Nat) (pl tl : Addr) (ws : List Value) (rest : List (Addr × Obj)) (g₀ : Array GenState) (i : Nat) (m : Str → Option Value) (nx : List (Addr × Obj)) (g : Array GenState) : Prop :=
  g = g₀ ∧ ∃ (us : List Value) (zs : List Str) (k : Nat), nx = (tl, PySem.W.listOf us.toArray k) :: (pl, PySem.W.listOf ws.toArray 0) :: rest ∧ StrsAre us zs ∧ zs.map (fun z => z.cps.toList) = (cuts x.cps.toList 0 (B ++ [x.cps.size])).take i ∧ (∀ z ∈ zs, okx z ∧ z.length ≤ x.length) ∧
    m (Str.ofString "told") = some (.ref tl) ∧ m (Str.ofString "places") = some (.ref pl) ∧ m (Str.ofString "line") = some (.str x tx) ∧ m (Str.ofString "fold") = some (.bool fold)
theorem cut_le {x : List Nat} {W : Int} {fold : Bool} : ∀ {l : List Nat} {a c : Nat}, HChn (LnOk x W fold) a l c → ∀ (i p q : Nat), (a :: l)[i]? = some p → l[i]? = some q → p ≤ q ∧ q ≤ c
  | [], _, _, _, i, p, q, _, h2 => by simp at h2
  | b :: r, a, c, h, 0, p, q, h1, h2 => by
    simp only [List.getElem?_cons_zero, Option.some.injEq] at h1 h2
    subst h1 h2
    exact ⟨h.1.1, (cuts_all h.2).1⟩
  | b :: r, a, c, h, i + 1, p, q, h1, h2 => cut_le h.2 i p q (by simpa using h1) (by simpa using h2)
theorem ints_at {vs : List Value} {l : List Nat} {i p : Nat} (h : IntsAre vs (asInts l)) (hp : l[i]? = some p) : ∃ t, vs[i]? = some (.int (p : Int) t) := by
  have hl := h.length
  rw [asInts_length] at hl
  obtain ⟨hi, e⟩ := List.getElem?_eq_some_iff.mp hp
  have hv : vs[i]? = some (vs[i]'(by omega)) := List.getElem?_eq_getElem _
  obtain ⟨n, t, e1, e2⟩ := h.at i _ hv
  unfold asInts at e2
  rw [List.getElem?_map, hp] at e2
  obtain rfl : (p : Int) = n := by simpa using e2
  exact ⟨t, by rw [hv, e1]⟩
theorem told_next {x : Str} {l : List Nat} {i p q : Nat} {zs : List Str} (h : zs.map (fun z => z.cps.toList) = (cuts x.cps.toList 0 l).take i) (hp : (0 :: l)[i]? = some p) (hq : l[i]? = some q) : (zs ++ [(⟨x.cps.extract p q⟩ : Str)]).map (fun z => z.cps.toList) = (cuts x.cps.toList 0 l).take (i + 1) := by
  rw [List.map_append, h, List.take_add_one, cuts_get hp hq, ← ex_seg]; rfl
section
variable {prog : Program} {w : World} {A : Around} {h₀ : Heap} {L : Addr} {I : List Addr} {own : List (Addr × Obj)} {J : (Str → Option Value) → List (Addr × Obj) → Array GenState → Prop} {d : Drawn} {os : OsState} {body : List Stmt} {env : Env} {s : Shared}
theorem forget_post {Q : Flow → Shared → Prop} {E : Value → Shared → Prop} (h : ∀ (Q' : Flow → Shared → Prop) (E' : Value → Shared → Prop), wpAny (model prog w) A (execs body env) (GPost h₀ L I own J d os Q') E' s) : wpAny (model prog w) A (execs body env) (GPost h₀ L I own J d os Q) E s := h Q E
end
section
variable {prog : Program} {w : World} {A : Around} {E : Value → Shared → Prop} {s : Shared}
theorem item_pl {value slice : Expr} {l : Addr} {ws : List Value} {i : Nat} {u : Tok} {x : Value} {Q : Value → Shared → Prop} (hl : s.heap.IsList l ws.toArray) (hx : ws[i]? = some x) (hi : i < 1000) (h : Q x s)
    (hs : subscripted slice false (.ref l) (.int (i : Int) u) = operate [.ref l, .int (i : Int) u] (getItem (.ref l) (.int (i : Int) u)) := by with_unfolding_all rfl) (hg : ∀ r, letTemporaryGo value (.ref l) r = pure () := by intro _; with_unfolding_all rfl) :
    wpAny (model prog w) A (subscriptTail value slice (.ref l) (.int (i : Int) u)) Q E s := item_listL hl (by omega) (by omega) (by rw [show ((i : Int)).toNat = i by omega]; exact hx) h hs hg
theorem item_pl1 {value slice : Expr} {l : Addr} {ws : List Value} {i : Nat} {u : Tok} {x : Value} {Q : Value → Shared → Prop} (hl : s.heap.IsList l ws.toArray) (hx : ws[i + 1]? = some x) (hi : i < 1000) (h : Q x s)
    (hs : subscripted slice false (.ref l) (.int ((i : Int) + 1) u) = operate [.ref l, .int ((i : Int) + 1) u] (getItem (.ref l) (.int ((i : Int) + 1) u)) := by with_unfolding_all rfl) (hg : ∀ r, letTemporaryGo value (.ref l) r = pure () := by intro _; with_unfolding_all rfl) :
    wpAny (model prog w) A (subscriptTail value slice (.ref l) (.int ((i : Int) + 1) u)) Q E s := item_listL hl (by omega) (by omega) (by rw [show ((i : Int) + 1).toNat = i + 1 by omega]; exact hx) h hs hg
theorem cut_len {x : Str} {l : List Nat} : ((cuts x.cps.toList 0 l).take l.length) = cuts x.cps.toList 0 l := by rw [List.take_of_length_le (by rw [cuts_length]; exact Nat.le_refl _)]
end
theorem join_list0 : ∀ zs : List Str, (Str.join (Str.ofString "") zs).cps.toList = (zs.map fun z => z.cps.toList).flatten
  | [] => rfl
  | [z] => by show z.cps.toList = _; simp
  | z :: y :: r => by
    have ih := join_list0 (y :: r)
    show (z ++ Str.ofString "" ++ Str.join (Str.ofString "") (y :: r)).cps.toList = _
    rw [List.map_cons, List.flatten_cons, ← ih]
    show (z.cps ++ (Str.ofString "").cps ++ (Str.join (Str.ofString "") (y :: r)).cps).toList = _
    rw [Array.toList_append, Array.toList_append]
    have : (Str.ofString "").cps.toList = [] := rfl
    rw [this, List.append_nil]
theorem sum_le {n : Nat} : ∀ {zs : List Str}, (∀ z ∈ zs, okx z ∧ z.length ≤ n) → (zs.map (·.length)).sum ≤ zs.length * n
  | [], _ => Nat.zero_le _
  | z :: r, h => by
    have ih := sum_le (zs := r) fun y hy => h y (.tail _ hy)
    have h1 := (h z (.head _)).2
    rw [List.map_cons, List.sum_cons, List.length_cons, Nat.succ_mul]
    omega
theorem str_ext {a b : Str} (h : a.cps.toList = b.cps.toList) : a = b := by
  cases a; cases b; simp only [Str.mk.injEq]; exact Array.ext' h
theorem asInts_places {vs : List Value} {B : List Nat} {n : Nat} (h : IntsAre vs ([0] ++ asInts B ++ [(n : Int)])) : IntsAre vs (asInts (0 :: (B ++ [n]))) := by
  have e : asInts (0 :: (B ++ [n])) = [0] ++ asInts B ++ [(n : Int)] := by unfold asInts; simp
  rw [e]; exact h
theorem news_pick {h₀ h : Heap} {L : Addr} {t a b x1 x2 x3 x4 c d : Addr × Obj} (N : News h₀ L h [t, a, b, x1, x2, x3, x4, c, d]) : News h₀ L h [a, b, c, d] := fun p hp => by
  refine N p ?_
  simp only [List.mem_cons] at hp ⊢
  rcases hp with h | h | h | h | h
  · exact .inr (.inl h)
  · exact .inr (.inr (.inl h))
  · exact .inr (.inr (.inr (.inr (.inr (.inr (.inr (.inl h)))))))
  · exact .inr (.inr (.inr (.inr (.inr (.inr (.inr (.inr (.inl h))))))))
  · cases h
local macro_rules | `(tactic| walk_at "subscriptTail Name Name ref int") => `(tactic| (k_here; (rename News _ _ _ _ => N9); (refine item_pl (News.isList N9 (.tail _ (.head _))) (by assumption) (by assumption) ?_)))
local macro_rules | `(tactic| walk_at "subscriptTail Name BinOp ref int") => `(tactic| (k_here; (rename News _ _ _ _ => N9); (refine item_pl1 (News.isList N9 (.tail _ (.head _))) (by assumption) (by assumption) ?_)))
theorem SrcN.mk {prog : Program} {w : World} {A : Around} {h₀ : Heap} {L : Addr} {m : Str → Option Value} {env : Env} {ct : Expr} {x : Str} {scope : Scope} {cl : List (Str × Addr)} {Q : Value → Shared → Prop} {s₁ : Shared} {l : Addr} {items : Array Value} {k : Nat} {news : List (Addr × Obj)} (J : List (Addr × Obj) → Array GenState → Prop)
    (hh : A.handled = none) (F : Fr h₀ L s₁.heap m) (N : News h₀ L s₁.heap ((l, PySem.W.listOf items k) :: news)) (off : ∀ p ∈ news, p.1 ≠ l) (hJ : J news s₁.gens)
    (test : ∀ (I : Addr) (i : Nat) (v : Value) (nx : List (Addr × Obj)) (h : Heap) (tk : Nat) (g : Array GenState) (own : List (Addr × Obj)) (C : Addr) (oC : Obj) (D : Addr) (m₂ : Str → Option Value) (E' : Value → Shared → Prop), items[i]? = some v → J nx g → LCg.NsObj oC m₂ → m₂ x = some v → Fr h₀ L h m → News h₀ L h ((C, oC) :: (D, LCg.lst []) :: (nx ++ own)) → (∀ p ∈ nx, p.1 ∉ [I, l] ∧ p.1 ≠ C ∧ p.1 ≠ D) → (∀ p ∈ own, p.1 ∈ [I, l] ∧ p.1 ≠ C ∧ p.1 ≠ D) → @Ne Nat C D →
      wpAny (model prog w) A (isTrue ct (compEnvC scope cl C env) (eval ct (compEnvC scope cl C env))) (NoEnd h₀ L m C D oC own [I, l] J s₁.drawn s₁.os) E' { heap := h, gens := g, drawn := s₁.drawn, toks := tk, os := s₁.os })
    (done : ∀ (D : Addr) (h : Heap) (tk : Nat) (g : Array GenState) (nx : List (Addr × Obj)), Fr h₀ L h m → News h₀ L h ((D, LCg.lst []) :: nx) → J nx g → Q (.ref D) { heap := h, gens := g, drawn := s₁.drawn, toks := tk, os := s₁.os }) :
    SrcN prog w A h₀ L m env ct x scope cl Q (.ref l) s₁ := ⟨l, items, k, news, J, rfl, hh, F, N, off, hJ, test, done⟩
local macro_rules | `(tactic| walk_at "eval ListComp") => `(tactic| (k_here; k_dflt (refine ListComp_N (F₀ := by k_asm) (by with_unfolding_all rfl) (by decide) (by rfl) (by decide) (by rfl) ?_)))
theorem c_law (w : World) (mg mb) (sl : Addr) (vs : List Value) (ns : List Int) (dp : Nat) (fr : Option (List Env)) (gd : Option (List Code)) (un : Nat) (s : Shared) (Q E : Value → Shared → Prop)
    (hK0 : (hd.heap_39 w.params).In s.heap) (hT0 : TopRead hd.view_39 LP mg mb s.heap) (hTab : TabOk s.heap) (hdp : dp + 80 < 900) (hun : un + 1600 < 9000) (hg : AllBare s.gens) (hb : s.heap.IsList sl vs.toArray) (hv : IntsAre vs ns) (hlen : ns.length ≤ 63)
    (hret : ∀ h' tk' g', KeepT s.heap h' → TabOk h' → GX s.gens g' → Q (.bool true) { heap := h', gens := g', drawn := s.drawn, toks := tk', os := s.os }) :
    wpAny (model PySem.Challenge.rw_ey0021_01.row.prog w) (AA dp fr gd un) (call (.ref 314) [.ref sl]) Q E s := by
  revert hK0; k_fill; intro hK0
  refine wpAny_call ?_
  k_dflt (refine' pEnterC (binds := [(Str.ofString "script", .ref sl)]) [227] ?k1 ?k2 ?k6 ?k7 ?k8 ?k9 ?kB ?kD ?_ ?c2 ?c3 ?c4)
  case k1 => k_asm
  case k2 => exact TopRead.nolimit (by assumption)
  case k6 => k_dflt k_is
  case k7 => k_dflt k_is
  case k8 => k_room
  case k9 => k_dflt (first | exact BindsTo.of_eq rfl | exact binds_K (by k_in) rfl (by k_is) rfl rfl rfl)
  case kB => exact rfl
  case kD => decide +kernel
  case c2 => exact rfl
  case c3 => exact rfl
  case c4 => exact rfl
  k_whole
  intro h₁ L₁ tk₁ cells₁ hL₁ F₁ N₁ Y₁ K₁ C₁
  k_cells Y₁
  rename_i oW dW0
  have dW : oW.data = .cell none := dW0
  have F₂ : Fr (hideAll s.heap [227]) L₁ h₁ (fun z => if z = Str.ofString "script" then some (.ref sl) else none) := F₁
  have hK : (hd.heap_39 w.params).In (hideAll s.heap [227]) := in_h0T hK0
  have hT : TopRead hd.view_39 LP mg mb (hideAll s.heap [227]) := top_h0T hT0
  have hz : (hideAll s.heap [227]).get? 227 = none := hideAll_none [227] (.head _)
  have hTT : TabOk s.heap ∧ 0 = 0 := ⟨hTab, rfl⟩
  have hsl : sl ≠ 227 := fun e => by
    obtain ⟨o, h1, h2, _⟩ := hb
    obtain ⟨⟨_, _, _, t⟩, _⟩ := hTab
    rw [e, t] at h1; cases h1; cases h2
  have hb1 : h₁.IsList sl vs.toArray := hb.at fun o e => K₁ _ _ e
  obtain ⟨ot, eot, te⟩ := tab_ent hTab (TabOk.keeps hTab K₁) F₁.keep
  have h227 : (227 : Nat) < s.heap.objs.size := let ⟨⟨_, _, _, tt⟩, _⟩ := hTab; Heap.lt_size tt
  have N₂ : News (hideAll s.heap [227]) L₁ h₁ [(L₁ + 1, oW), (227, ot)] := fun p hp => by
    rcases List.mem_cons.mp hp with rfl | hp
    · exact N₁ _ (.head _)
    · rw [List.mem_singleton.mp hp]
      exact ⟨eot, (L_ne hK F₁).symm, hz⟩
  have bn : ∀ {b : Addr} {hh : Heap}, Keep (hideAll s.heap [227]) hh → hh.get? b = none → (hideAll s.heap [227]).get? b = none := fun {b hh} k z => by
    cases e : (hideAll s.heap [227]).get? b with
    | none => rfl
    | some o => have := k b o e; rw [z] at this; cases this
  have hL227 : @LT.lt Nat _ 227 L₁ := Nat.lt_of_lt_of_le h227 hL₁
  clear dW0 F₁ N₁ K₁ hb C₁ hT0 hTab
  (try dsimp only)
  (try k_fold)
  k_steps
  rename Fr _ _ _ _ => F9
  rename News _ _ _ _ => N9
  refine c_state w mg mb sl vs ns (dp + 1) _ _ _ _ _ _ (hK.keeps F9.keep) (hT.keeps F9.keep) (by omega) (by (try simp only [units_deeper]); omega) hb1 hv (Nat.le_trans hlen (by decide)) ?_
  rintro a b t0 n0 ys ms h2 tk2 K2 ea hbl hms hms40 hab za zb
  obtain ⟨ob, eb, cb, nb, db⟩ := id hbl
  have N2 : News (hideAll s.heap [227]) L₁ h2 [(a, lst #[.ref b, .int 0 t0] n0), (b, ob), (L₁ + 1, oW), (227, ot)] := fun p hp => by
    rcases List.mem_cons.mp hp with rfl | hp
    · exact News.fresh F9 N9 K2 za ea _ (.head _)
    · rcases List.mem_cons.mp hp with rfl | hp
      · exact News.fresh F9 N9 K2 zb eb _ (.head _)
      · exact News.grown N9 K2 p hp
  have offa := news_off N9 za
  have offb := news_off N9 zb
  have ha1 : @Ne Nat a (L₁ + 1) := fun e => offa _ (.head _) e.symm
  have ha2 : @Ne Nat a 227 := fun e => offa _ (.tail _ (.head _)) e.symm
  have hb1' : @Ne Nat b (L₁ + 1) := fun e => offb _ (.head _) e.symm
  have hb2 : @Ne Nat b 227 := fun e => offb _ (.tail _ (.head _)) e.symm
  have hab' : @Ne Nat a b := hab
  have F2 := Fr.keeps F9 K2
  have hka : (hd.heap_39 w.params).lookup a = none := by
    cases e : (hd.heap_39 w.params).lookup a with
    | none => rfl
    | some o => have := hK.keeps F9.keep _ _ e; rw [za] at this; cases this
  clear F9 N9 hb1 offa offb
  have ha0 : (hideAll s.heap [227]).get? a = none := (N2 _ (.head _)).2.2
  have hLa : L₁ ≠ a := fun e => (N2 _ (.head _)).2.1 e.symm
  k_steps
  rename Fr _ _ _ _ => F9
  rename News _ _ _ _ => N9
  refine c_lline w mg mb a b 0 t0 n0 ys ms (dp + 1) _ _ _ _ _ _ (hK.keeps F9.keep) (hT.keeps F9.keep) (by omega) (by (try simp only [units_deeper]); omega) (by omega) (by omega) (News.get N9 (by k_mem)) ⟨ob, News.get N9 (by k_mem), cb, nb, db⟩ hms hab hka ?_
  rintro x tx i3 t3 h3 tk3 k3 e3 hok hx100 hi3
  refine' draw_next N9 ?U k3 e3 ?_
  case U => k_updF
  intro N3
  have F3 := Fr.mut F9 ha0 hLa k3
  clear F9 N9
  k_steps
  rename Fr _ _ _ _ => F9
  rename News _ _ _ _ => N9
  rename TopRead _ _ _ _ _ => hT
  rename Frag.In _ _ => hK
  refine c_draw w mg mb a b i3 8 _ _ n0 ys ms (dp + 1) _ _ _ _ _ _ (hK.keeps F9.keep) (hT.keeps F9.keep) (by omega) (by (try simp only [units_deeper]); omega) (by omega) (by omega) (by omega) (News.get N9 (by k_mem)) ⟨ob, News.get N9 (by k_mem), cb, nb, db⟩ hms hab hka ?_
  rintro r8 tr4 i4 t4 h4 tk4 k4 e4 lo4 hi4 hi4'
  refine' draw_next N9 ?U k4 e4 ?_
  case U => k_updF
  intro N4
  have F4 := Fr.mut F9 ha0 hLa k4
  clear F9 N9
  k_steps
  rename Fr _ _ _ _ => F9
  rename News _ _ _ _ => N9
  rename TopRead _ _ _ _ _ => hT
  rename Frag.In _ _ => hK
  refine c_draw w mg mb a b i4 3 _ _ n0 ys ms (dp + 1) _ _ _ _ _ _ (hK.keeps F9.keep) (hT.keeps F9.keep) (by omega) (by (try simp only [units_deeper]); omega) (by omega) (by omega) (by omega) (News.get N9 (by k_mem)) ⟨ob, News.get N9 (by k_mem), cb, nb, db⟩ hms hab hka ?_
  rintro r3 tr5 i5 t5 h5 tk5 k5 e5 lo5 hi5 hi5'
  refine' draw_next N9 ?U k5 e5 ?_
  case U => k_updF
  intro N5
  have F5 := Fr.mut F9 ha0 hLa k5
  clear F9 N9
  k_steps
  rename Fr _ _ _ _ => F9
  rename News _ _ _ _ => N9
  rename Obj.data _ = Data.cell (some _) => dW9
  obtain ⟨W, hW⟩ : ∃ W : Nat, 2 + r8 = (W : Int) := ⟨(2 + r8).toNat, (Int.toNat_of_nonneg (by omega)).symm⟩
  have hW2 : 2 ≤ W := by omega
  have hW10 : W < 100 := by omega
  rw [hW] at dW9
  obtain ⟨fold, hfold⟩ : ∃ f, f = decide ((0 : Int) < r3) := ⟨_, rfl⟩
  rw [← hfold] at F9
  have N6 : News _ L₁ _ [(L₁ + 1, _), (227, ot)] := fun p hp => N9 p (.tail _ (.tail _ (.tail _ hp)))
  have F6 := F9
  clear F9 N9
  try clear hfold
  try clear hW
  try clear k3
  try clear e3
  try clear k4
  try clear e4
  try clear k5
  try clear e5
  try clear K2
  try clear ea
  try clear eb
  rename Fr _ _ _ _ => F9
  rename News _ _ _ _ => N9
  rename TopRead _ _ _ _ _ => hT
  rename Frag.In _ _ => hK
  try clear ha1
  try clear ha2
  try clear hb1'
  try clear hb2
  try clear hab'
  try clear hka
  try clear ha0
  try clear hLa
  try clear cb
  try clear db
  try clear hms
  try clear hms40
  try clear hab
  try clear za
  try clear zb
  try clear lo4
  try clear hi4
  try clear hi4'
  try clear lo5
  try clear hi5
  try clear hi5'
  try clear hi3
  try clear hlen
  try clear hv
  try clear hsl
  try clear hTab
  obtain ⟨Ws, hWs⟩ := words_ex x.cps x.cps.size 0 (by omega)
  have hxc : x.cps.size < 100 := hx100
  have hWl : Ws.length ≤ 100 := by have := words_len hWs (Nat.zero_le _); omega
  refine c_wordsL w mg mb x tx Ws hWs hok (by omega) (dp + 1) _ _ _ _ _ _ (hideAll s.heap [227]) F9.keep (Nat.le_of_lt (Nat.lt_of_le_of_lt F9.above F9.ns.lt)) hK hT (by omega) (by (try simp only [units_deeper]); omega) ?_
  rintro a2 C2 g2 h6 tk6 gs6 K6 hbare6 hg6 hgat za2 zC2 haC2 hCge2
  have F6 := Fr.keeps F9 K6
  have N6 := News.grown N9 K6
  have offC2 := news_off N9 zC2
  have hLC2 : L₁ ≠ C2 := fun e => by
    obtain ⟨o, _, _, h1, _⟩ := F9.ns
    rw [e, zC2] at h1; cases h1
  have hC20 := bn F9.keep zC2
  have G6 : GX s.gens (s.gens.push gs6) := ⟨fun i v e => by obtain ⟨hi, hv⟩ := Array.getElem?_eq_some_iff.mp e; rw [Array.getElem?_push_lt hi, hv], fun hb => AllBare.push hb hbare6⟩
  clear F9 N9
  k_steps
  rename Fr _ _ _ _ => F9
  rename News _ _ _ _ => N9
  refine gl_list (base := hideAll s.heap [227]) (C := C2) rfl hT.nolimit (by (try simp only [depth_deeper, Around.in1]); show dp + 1 < recursionLimit; simp only [recursionLimit]; omega) F9.keep haC2 hC20 (by omega) hgat ?_
  rintro D3 ds3 c3 ⟨h7, gs7, dr7, tk7, os7⟩ hold3 WH3 hgo hdr7 hos7
  obtain rfl : dr7 = s.drawn := hdr7
  obtain rfl : os7 = s.os := hos7
  have hold3' : ∀ b o, b ≠ C2 → Heap.get? _ b = some o → h7.get? b = some o := hold3
  have hgo' : GenOnlyQ _ _ gs7 := hgo
  have F7 := Fr.mut F9 hC20 hLC2 fun b x n e => hold3 b x n e
  have N7 : News _ L₁ h7 [(L₁ + 1, _), (227, ot)] := fun p hp => ⟨hold3 _ _ (offC2 p hp) (N9 p hp).1, (N9 p hp).2⟩
  have WL3 : WordsLie x Ws h7 D3 ds3 := ⟨c3, WH3.1, WH3.2.2.1, fun j d hj => (WH3.2.2.2 j d hj).1⟩
  have G7 : GX s.gens gs7 := GX.only (by rw [hg6]; exact Nat.le_refl _) G6 hgo'
  clear F9 N9 hold3 hold3' hgo hgo' WH3 hgat G6
  try clear za2
  try clear zC2
  try clear haC2
  try clear hCge2
  try clear offC2
  try clear hLC2
  try clear hC20
  try clear K6
  try clear hbare6
  try clear hg6
  (try dsimp only)
  k_steps
  rename Fr _ _ _ _ => F9
  rename News _ _ _ _ => N9
  refine c_lwords w mg mb x tx Ws hWs (dp + 1) _ _ _ _ _ _ (hK.keeps F9.keep) (hT.keeps F9.keep) (by omega) (by (try simp only [units_deeper]); omega) (by omega) ?_
  rintro D4 ds4 c4 h8 tk8 K8 WH4
  have F8 := Fr.keeps F9 K8
  have N8 := News.grown N9 K8
  have WL4 : WordsLie x Ws h8 D4 ds4 := ⟨c4, WH4.1, WH4.2.2.1, fun j d hj => (WH4.2.2.2 j d hj).1⟩
  obtain ⟨k3', l1, l2, l3⟩ := WL3
  have WL3 : WordsLie x Ws h8 D3 ds3 := ⟨k3', K8 _ _ l1, l2, fun j d hj => by
    obtain ⟨a, b, ta, tb, tx, h1, h2⟩ := l3 j d hj
    exact ⟨a, b, ta, tb, tx, h1, K8 _ _ h2⟩⟩
  clear F9 N9 l3 WH4
  (try dsimp only)
  k_steps
  refine words_ne hok WL3 WL4 (by (try simp only [units_deeper]); show un + 3 + 64 < cLine; simp only [cLine]; omega) ?_
  clear WL3 WL4
  (try dsimp only)
  k_steps
  rename Fr _ _ _ _ => F9
  rename News _ _ _ _ => N9
  rename TopRead _ _ _ _ _ => hT
  rename Frag.In _ _ => hK
  try clear l1
  try clear l2
  try clear K8
  refine (c_div w mg mb x tx Ws hWs W _ fold (dp + 1) _ _ _ _ _ _ (hK.keeps F9.keep) (hT.keeps F9.keep) (te _ F9.keep (News.get N9 (by k_mem))) (by omega) (by (try simp only [units_deeper]); omega) (GX.bare G7 hg) hok (by omega) hW2 hW10 ?_).1
  rintro D5 vs5 n5 h9 tk9 gs9 K9 t9 G9 hD5 hD50 hI5
  have F9' := frT hz (L_ne hK F9) F9 K9
  obtain ⟨ot9, e9, te9⟩ := tab_ent hTT.1 t9 (Fr.keep F9')
  refine' px_next N9 ?U K9 e9 ?_
  case U => k_updF
  intro N9'
  have off5 := news_off N9 hD50
  have hD5L : @Ne Nat D5 L₁ := fun e => by
    obtain ⟨o, _, _, h1, _⟩ := F9.ns
    rw [← e, hD50] at h1; cases h1
  have hb5 := bn F9.keep hD50
  have N10 : News _ L₁ h9 [(D5, PySem.W.listOf vs5.toArray n5), (L₁ + 1, _), (227, ot9)] := fun p hp => by
    rcases List.mem_cons.mp hp with rfl | hp
    · exact ⟨hD5, hD5L, hb5⟩
    · exact N9' p hp
  have G10 := GX.trans G7 G9
  have h51 : @Ne Nat (L₁ + 1) D5 := off5 _ (.head _)
  have h52 : @Ne Nat 227 D5 := off5 _ (.tail _ (.head _))
  clear F9 N9 N9' G7 G9 K9 t9 off5
  k_steps
  rename Fr _ _ _ _ => F9
  rename News _ _ _ _ => N9
  rename TopRead _ _ _ _ _ => hT
  rename Frag.In _ _ => hK
  refine c_lbreaks w mg mb x tx Ws hWs W _ fold (dp + 1) _ _ _ _ _ _ (hK.keeps F9.keep) (hT.keeps F9.keep) (by omega) (by (try simp only [units_deeper]); omega) hok (by omega) hW2 hW10 ?_
  rintro D6 vs6 n6 h10 tk10 K10 hD6 hD60 hI6
  have F10 := Fr.keeps F9 K10
  have N10 := News.fresh F9 N9 K10 hD60 hD6
  clear F9 N9
  k_steps
  rename Fr _ _ _ _ => F9
  rename News _ _ _ _ => N9
  rename Fr _ _ _ _ => F9
  rename News _ _ _ _ => N9
  have hbl9 := brks_len (fold := fold) (W := (W : Int)) (by omega) hWs ([], 0) (Nat.zero_le _) (Nat.zero_le _)
  have hch := brks_all (t := x.cps) (W := (W : Int)) (fold := fold) (by omega) hWs
  obtain ⟨B, hB⟩ : ∃ B, B = (brks x.cps.toList (W : Int) fold Ws ([], 0)).1 := ⟨_, rfl⟩
  rw [← hB] at hI5 hbl9 hch
  rename_i l0 h00 l100
  have hl0 : @LT.lt Nat _ D5 l0 ∧ @LT.lt Nat _ (L₁ + 1) l0 ∧ @LT.lt Nat _ 227 l0 := ⟨l100.2.1, l100.2.2.1, l100.2.2.2⟩
  have N11 : News _ L₁ _ [(l0, PySem.W.listOf #[Value.int 0 _] 0), (D5, PySem.W.listOf vs5.toArray n5), (L₁ + 1, _), (227, ot9)] := fun p hp => by
    rcases List.mem_cons.mp hp with rfl | hp
    · exact N9 _ (.head _)
    · exact N9 p (.tail _ (.tail _ hp))
  have F11 := F9
  clear F9 N9 hI6 hD6 hD60 hB K10 l100 e9 hD5 hD50
  k_steps
  rename Fr _ _ _ _ => F9
  rename News _ _ _ _ => N9
  rename IntsAre _ (_ ++ _ ++ _) => hI0
  have hI7 : IntsAre _ (asInts (0 :: (B ++ [x.cps.size]))) ∧ 0 = 0 := ⟨asInts_places hI0, rfl⟩
  have hwl := hI7.1.length
  rw [asInts_length, List.length_cons, List.length_append, List.length_singleton] at hwl
  refine len_list (News.isList N9 (.tail _ (.tail _ (.head _)))) (by rw [List.size_toArray, hwl]; omega) ?_
  rw [List.size_toArray, hwl]
  have N12 := news_pick N9
  have F12 := F9
  clear F9 N9 hI0
  (try dsimp only)
  k_steps
  rename Fr _ _ _ _ => F9
  rename News _ _ _ _ => N9
  rename IsRange _ _ _ _ _ _ _ _ => I9
  rename_i pl ws _ q2 tl _ q1 _ _ q3 _ _ _ _ _ _ _ _ _ _ _
  have hpt : @LT.lt Nat _ pl tl := q1.1
  have h1t : @LT.lt Nat _ (L₁ + 1) tl := q1.2.2.2.2.2.1
  have h2t : @LT.lt Nat _ 227 tl := q1.2.2.2.2.2.2
  have h1p : @LT.lt Nat _ (L₁ + 1) pl := q2.2.2.2.2.1
  have h2p : @LT.lt Nat _ 227 pl := q2.2.2.2.2.2
  clear q1 q2 q3
  try clear hl0
  try clear h51
  try clear h52
  try clear hD5L
  try clear hb5
  try clear hI5
  try clear hWs
  try clear hW2'
  try clear hgat
  rw [show (((B.length + 1 + 1 : Nat) : Int) - 1) = ((B.length + 1 : Nat) : Int) by omega] at I9
  refine' grange (N := B.length + 1) (news := [(tl, PySem.W.listOf ([] : List Value).toArray 0), (pl, PySem.W.listOf ws.toArray 0), (L₁ + 1, _), (227, ot9)]) (TJ x tx fold B pl tl ws [(L₁ + 1, _), (227, ot9)] gs9) I9 (small_step (by omega) (by omega) (by omega) (by omega)) rfl rfl rfl F9 N9 ⟨rfl, [], [], 0, rfl, .nil, rfl, (fun _ h => nomatch h), rfl, rfl, rfl, rfl⟩ (by passes_own) ?turn ?done
  case turn =>
    rintro i t m1 nx h tk g own hi hoff hnx how ⟨rfl, us, zs, k, rfl, hus, hzs, hzok, e1, e2, e3, e4⟩ F N
    refine forget_post fun Q9 E9 => ?_
    clear F9 N9 I9
    have ho : OwnOff own [tl, pl, L₁ + 1, 227] := hoff
    have hul : us.length = i := by
      have h1 := hus.length
      have h2 := congrArg List.length hzs
      rw [List.length_map, List.length_take, cuts_length, List.length_append, List.length_singleton] at h2
      omega
    have F7 : Fr _ L₁ h _ := (Fr.know (y := Str.ofString "fold") (Fr.know (y := Str.ofString "line") (Fr.know (y := Str.ofString "places") (Fr.know (y := Str.ofString "told") F e1) e2) e3) e4)
    have N6 : News _ L₁ h ((tl, PySem.W.listOf us.toArray k) :: (pl, PySem.W.listOf ws.toArray 0) :: (L₁ + 1, _) :: (227, ot9) :: own) := N
    clear F N hoff
    obtain ⟨p, hp⟩ : ∃ p, (0 :: (B ++ [x.cps.size]))[i]? = some p := ⟨_, List.getElem?_eq_getElem (by simp; omega)⟩
    obtain ⟨q, hq⟩ : ∃ q, (B ++ [x.cps.size])[i]? = some q := ⟨_, List.getElem?_eq_getElem (by simp; omega)⟩
    obtain ⟨tp, hwp⟩ := ints_at hI7.1 hp
    obtain ⟨tq, hwq⟩ := ints_at hI7.1 (i := i + 1) (p := q) (by rw [List.getElem?_cons_succ]; exact hq)
    have hi1k : i < 1000 := by omega
    obtain ⟨hpq, hqn⟩ := cut_le hch i p q hp hq
    k_steps
    rename Fr _ _ _ _ => F9
    rename News _ _ _ _ => N9
    rw [List.push_toArray, slice_ex hpq hqn] at N9
    exact GPost.fin [(tl, _), (pl, PySem.W.listOf ws.toArray 0), (L₁ + 1, _), (227, ot9)] F9 (fun p hp => N9 p hp) (fun p hp => by
      rcases List.mem_cons.mp hp with rfl | hp
      · exact fun hm => hnx (tl, PySem.W.listOf us.toArray k) (.head _) (List.mem_singleton.mp hm)
      · exact fun hm => hnx p (.tail _ hp) (List.mem_singleton.mp hm)) ⟨rfl, _, zs ++ [_], _, rfl, strs_push hus, told_next hzs hp hq, fun z hz => by
      rcases List.mem_append.mp hz with h | h
      · exact hzok z h
      · rw [List.mem_singleton.mp h]; exact ⟨ex_ok hok p q, ex_len x p q⟩, rfl, rfl, rfl, rfl⟩
  case done =>
    rintro m1 nx h tk g ⟨rfl, us, zs, k, rfl, hus, hzs, hzok, e1, e2, e3, e4⟩ F N
    clear F9 N9 I9
    have hcl : (cuts x.cps.toList 0 (B ++ [x.cps.size])).take (B.length + 1) = cuts x.cps.toList 0 (B ++ [x.cps.size]) := by
      have := cut_len (x := x) (l := B ++ [x.cps.size])
      rwa [List.length_append, List.length_singleton] at this
    rw [hcl] at hzs
    obtain ⟨_, hflat, hfits⟩ := cuts_all hch
    have hj : Str.join (Str.ofString "") zs = x := str_ext (by rw [join_list0, hzs, hflat]; exact seg_all _)
    have hul : us.length = B.length + 1 := by
      have h1 := hus.length
      have h2 := congrArg List.length hzs
      rw [List.length_map, cuts_length, List.length_append, List.length_singleton] at h2
      omega
    have hfit : ∀ z ∈ zs, fold = true → sizeL (rstL z.cps.toList) ≤ (W : Int) := fun z hz => hfits _ (hzs ▸ List.mem_map.mpr ⟨z, hz, rfl⟩)
    have F7 : Fr _ L₁ h _ := (Fr.know (y := Str.ofString "fold") (Fr.know (y := Str.ofString "line") (Fr.know (y := Str.ofString "told") F e1) e3) e4)
    have N6 : News _ L₁ h [(tl, PySem.W.listOf us.toArray k), (L₁ + 1, _), (227, ot9)] := fun p hp => by
      rcases List.mem_cons.mp hp with rfl | hp
      · exact N _ (.head _)
      · exact N _ (.tail _ (.tail _ hp))
    clear F N hcl hflat hfits hch
    have hus9 : StrsAre us zs ∧ 0 = 0 := ⟨hus, rfl⟩
    have hj9 : Str.join (Str.ofString "") zs = x ∧ 0 = 0 := ⟨hj, rfl⟩
    have hsum : (zs.map (·.length)).sum + zs.length ≤ 1048576 := by
      have h1 := sum_le hzok
      have h2 := hus.length
      have h3 : x.length = x.cps.size := rfl
      have h4 : zs.length ≤ 101 := by omega
      have h5 : zs.length * x.length ≤ 101 * 100 := Nat.mul_le_mul h4 (by omega)
      omega
    clear hus hj
    k_steps
    rename Fr _ _ _ _ => F9
    rename News _ _ _ _ => N9
    refine join_listW (items := us.toArray) (ys := zs) (News.isList N9 (by k_mem)) (strs_arr hus9.1) (by decide) hsum fun tj kj => ?_
    rw [show Txt.join (Str.ofString "") zs = Str.join (Str.ofString "") zs from StrLaws.glued_eq_join _ _, hj9.1]
    dsimp only
    k_steps
    · rename (x != x) = true => hb9
      exact absurd hb9 (by simp)
    · rename fold = true => hft
      subst hft
      have N9' : ∃ oV, News (hideAll s.heap [227]) L₁ h [(tl, PySem.W.listOf us.toArray k), (L₁ + 1, oV), (227, ot9)] ∧ oV.data = Data.cell (some (.int W _)) := ⟨_, N9, dW9⟩
      obtain ⟨oV, N10, dV9⟩ := N9'
      clear N9
      with_reducible refine' SrcN.mk (news := [(L₁ + 1, oV), (227, ot9)]) (fun nx g => ∃ ot', nx = [(L₁ + 1, oV), (227, ot')] ∧ TabEnt (hideAll s.heap [227]) ot' ∧ GX s.gens g) ?hh ?F ?N ?off ?J ?test ?done
      case hh => rfl
      case F => exact F9
      case N => exact N10
      case off =>
        intro p hp
        rcases List.mem_cons.mp hp with rfl | hp
        · exact Nat.ne_of_lt h1t
        · rw [List.mem_singleton.mp hp]; exact Nat.ne_of_lt h2t
      case J => exact ⟨_, rfl, te9, G10⟩
      case test =>
        rintro I i v nx h' tk' g' own C oC D m₂ E' hi ⟨ot', rfl, te', G'⟩ hoC hx F N o1 o2 hCD
        obtain ⟨z, tz, rfl, hzz⟩ := StrsAre.item hus9.1 i v (by simpa using hi)
        have hzm := List.mem_of_getElem? hzz
        have hzk := hzok z hzm
        have hzf := hfit z hzm rfl
        clear F9 N10 hi hzz
        k_steps
        rename TopRead _ _ _ _ _ => T9
        rename Frag.In _ _ => X9
        have hxl : x.length = x.cps.size := rfl
        have hzl : (Txt.rstrip z).length ≤ z.length := fact_rstrip _
        have hoo := o1 (227, ot') (.tail _ (.head _))
        have hsz : sizeL (Txt.rstrip z).cps.toList ≤ (W : Int) := by rw [rst_list hzk.1]; exact hzf
        refine c_celllen w mg mb (Txt.rstrip z) _ (dp + 1) _ _ _ _ _ _ (X9.keeps F.keep) (T9.keeps F.keep) (te' _ F.keep (N (227, ot') (.tail _ (.tail _ (.tail _ (.head _))))).1) (by omega) (by (try simp only [units_deeper]); omega) ⟨rst_ok hzk.1, Nat.lt_of_le_of_lt (Nat.le_trans hzl hzk.2) (by omega)⟩ (GX.bare G' hg) ?_
        rintro v10 h10 tk10 g10 K10 t10 G10' ⟨u10, rfl⟩
        generalize sizeL (Txt.rstrip z).cps.toList = q10 at hsz ⊢
        have F10 := frT hz (L_ne X9 F) F K10
        obtain ⟨ot10, e10, te10⟩ := tab_ent hTT.1 t10 (Fr.keep F10)
        have U10 : UpdF 227 ot' ((C, oC) :: (D, LCg.lst []) :: ([(L₁ + 1, oV), (227, ot')] ++ own)) (fun o' => (C, oC) :: (D, LCg.lst []) :: (L₁ + 1, oV) :: (227, o') :: own) :=
          .tail (Ne.symm hoo.2.1) (.tail (Ne.symm hoo.2.2) (.tail (Ne.symm (Nat.ne_of_lt (Nat.lt_succ_of_lt hL227))) (.head fun p hp e => hoo.1 (e ▸ (o2 p hp).1))))
        refine' px_next N U10 K10 e10 ?_
        intro N11
        have G11 := GX.trans G' G10'
        clear F N G' G10' K10 t10 e10 U10 te'
        k_steps
        exact ⟨rfl, h10, _, g10, [(L₁ + 1, oV), (227, ot10)], rfl, F10, N11, fun p hp => by
          rcases List.mem_cons.mp hp with rfl | hp
          · exact o1 _ (.head _)
          · rw [List.mem_singleton.mp hp]; exact hoo, ⟨ot10, rfl, te10, G11⟩⟩
      case done =>
        rintro D h' tk' g' nx F N ⟨ot', rfl, te', G'⟩
        clear F9 N10
        k_steps
        rename TopRead _ _ _ _ _ => hT
        rename Frag.In _ _ => hK
        refine (c_div w mg mb (Str.ofString "ab cd") _ [(0, 3), (3, 5)] wa1 2 _ true (dp + 1) _ _ _ _ _ _ (hK.keeps (Fr.keep F)) (hT.keeps (Fr.keep F)) (te' _ (Fr.keep F) (News.get N (by k_mem))) (by omega) (by (try simp only [units_deeper]); omega) (GX.bare G' hg) ok1 (by show (Str.ofString "ab cd").cps.size < 500; rw [arr1]; decide) (by decide) (by decide) ?_).2 rfl
        rintro D31 vs31 n31 h31 tk31 g31 K31 t31 G31 hD31 hDz31 hI31
        rw [br1] at hI31
        have F31 := frT hz (L_ne hK F) F K31
        obtain ⟨ot31, e31, te31⟩ := tab_ent hTT.1 t31 (Fr.keep F31)
        have hDL31 : @Ne Nat D31 L₁ := fun e => by
          obtain ⟨o, _, _, h1, _⟩ := Fr.ns F
          rw [← e, hDz31] at h1; cases h1
        have hbn31 := bn (Fr.keep F) hDz31
        have N31 : News (hideAll s.heap [227]) L₁ h31 [(D31, PySem.W.listOf vs31.toArray n31), (227, ot31)] := fun p hp => by
          rcases List.mem_cons.mp hp with rfl | hp
          · exact ⟨hD31, hDL31, hbn31⟩
          · rw [List.mem_singleton.mp hp]; exact ⟨e31, (L_ne hK F31).symm, hz⟩
        have hD231 : @Ne Nat 227 D31 := fun e => by
          have h1 := (hTT.1).1
          obtain ⟨_, _, _, tt⟩ := h1
          have h2 := News.get N (a := 227) (o := ot') (by k_mem)
          rw [e, hDz31] at h2; cases h2
        have GG31 := GX.trans G' G31
        clear F N K31 t31 e31 hD31 hDz31 hDL31 hbn31 G' G31 te'
        k_steps
        rename Fr _ _ _ _ => F9
        rename News _ _ _ _ => N9
        rename TopRead _ _ _ _ _ => hT
        rename Frag.In _ _ => hK
        refine (c_div w mg mb (Str.ofString "abcdef g") _ [(0, 7), (7, 8)] wa2 4 _ true (dp + 1) _ _ _ _ _ _ (hK.keeps (Fr.keep F9)) (hT.keeps (Fr.keep F9)) (te31 _ (Fr.keep F9) (News.get N9 (by k_mem))) (by omega) (by (try simp only [units_deeper]); omega) (GX.bare GG31 hg) ok2 (by show (Str.ofString "abcdef g").cps.size < 500; rw [arr2]; decide) (by decide) (by decide) ?_).2 rfl
        rintro D32 vs32 n32 h32 tk32 g32 K32 t32 G32 hD32 hDz32 hI32
        rw [br2] at hI32
        have F32 := frT hz (L_ne hK F9) F9 K32
        obtain ⟨ot32, e32, te32⟩ := tab_ent hTT.1 t32 (Fr.keep F32)
        have hDL32 : @Ne Nat D32 L₁ := fun e => by
          obtain ⟨o, _, _, h1, _⟩ := Fr.ns F9
          rw [← e, hDz32] at h1; cases h1
        have hbn32 := bn (Fr.keep F9) hDz32
        have N32 : News (hideAll s.heap [227]) L₁ h32 [(D32, PySem.W.listOf vs32.toArray n32), (227, ot32)] := fun p hp => by
          rcases List.mem_cons.mp hp with rfl | hp
          · exact ⟨hD32, hDL32, hbn32⟩
          · rw [List.mem_singleton.mp hp]; exact ⟨e32, (L_ne hK F32).symm, hz⟩
        have hD232 : @Ne Nat 227 D32 := fun e => by
          have h1 := (hTT.1).1
          obtain ⟨_, _, _, tt⟩ := h1
          have h2 := News.get N9 (a := 227) (o := ot31) (by k_mem)
          rw [e, hDz32] at h2; cases h2
        have GG32 := GX.trans GG31 G32
        clear F9 N9 K32 t32 e32 hD32 hDz32 hDL32 hbn32 GG31 G32 te31
        k_steps
        rename Fr _ _ _ _ => F9
        rename News _ _ _ _ => N9
        rename TopRead _ _ _ _ _ => hT
        rename Frag.In _ _ => hK
        refine (c_div w mg mb (Str.ofString "abcdef g") _ [(0, 7), (7, 8)] wa2 4 _ false (dp + 1) _ _ _ _ _ _ (hK.keeps (Fr.keep F9)) (hT.keeps (Fr.keep F9)) (te32 _ (Fr.keep F9) (News.get N9 (by k_mem))) (by omega) (by (try simp only [units_deeper]); omega) (GX.bare GG32 hg) ok2 (by show (Str.ofString "abcdef g").cps.size < 500; rw [arr2]; decide) (by decide) (by decide) ?_).1
        rintro D33 vs33 n33 h33 tk33 g33 K33 t33 G33 hD33 hDz33 hI33
        rw [br3] at hI33
        have F33 := frT hz (L_ne hK F9) F9 K33
        obtain ⟨ot33, e33, te33⟩ := tab_ent hTT.1 t33 (Fr.keep F33)
        have hDL33 : @Ne Nat D33 L₁ := fun e => by
          obtain ⟨o, _, _, h1, _⟩ := Fr.ns F9
          rw [← e, hDz33] at h1; cases h1
        have hbn33 := bn (Fr.keep F9) hDz33
        have N33 : News (hideAll s.heap [227]) L₁ h33 [(D33, PySem.W.listOf vs33.toArray n33), (227, ot33)] := fun p hp => by
          rcases List.mem_cons.mp hp with rfl | hp
          · exact ⟨hD33, hDL33, hbn33⟩
          · rw [List.mem_singleton.mp hp]; exact ⟨e33, (L_ne hK F33).symm, hz⟩
        have hD233 : @Ne Nat 227 D33 := fun e => by
          have h1 := (hTT.1).1
          obtain ⟨_, _, _, tt⟩ := h1
          have h2 := News.get N9 (a := 227) (o := ot32) (by k_mem)
          rw [e, hDz33] at h2; cases h2
        have GG33 := GX.trans GG32 G33
        clear F9 N9 K33 t33 e33 hD33 hDz33 hDL33 hbn33 GG32 G33 te32
        k_steps
        rename Fr _ _ _ _ => F9
        rename News _ _ _ _ => N9
        exact hret _ _ _ (keepT_of F9.keep) (te33 _ F9.keep (News.get N9 (by k_mem))) GG33
    · k_steps
      rename TopRead _ _ _ _ _ => hT
      rename Frag.In _ _ => hK
      refine (c_div w mg mb (Str.ofString "ab cd") _ [(0, 3), (3, 5)] wa1 2 _ true (dp + 1) _ _ _ _ _ _ (hK.keeps (Fr.keep F9)) (hT.keeps (Fr.keep F9)) (te9 _ (Fr.keep F9) (News.get N9 (by k_mem))) (by omega) (by (try simp only [units_deeper]); omega) (GX.bare G10 hg) ok1 (by show (Str.ofString "ab cd").cps.size < 500; rw [arr1]; decide) (by decide) (by decide) ?_).2 rfl
      rintro D31 vs31 n31 h31 tk31 g31 K31 t31 G31 hD31 hDz31 hI31
      rw [br1] at hI31
      have F31 := frT hz (L_ne hK F9) F9 K31
      obtain ⟨ot31, e31, te31⟩ := tab_ent hTT.1 t31 (Fr.keep F31)
      have hDL31 : @Ne Nat D31 L₁ := fun e => by
        obtain ⟨o, _, _, h1, _⟩ := Fr.ns F9
        rw [← e, hDz31] at h1; cases h1
      have hbn31 := bn (Fr.keep F9) hDz31
      have N31 : News (hideAll s.heap [227]) L₁ h31 [(D31, PySem.W.listOf vs31.toArray n31), (227, ot31)] := fun p hp => by
        rcases List.mem_cons.mp hp with rfl | hp
        · exact ⟨hD31, hDL31, hbn31⟩
        · rw [List.mem_singleton.mp hp]; exact ⟨e31, (L_ne hK F31).symm, hz⟩
      have hD231 : @Ne Nat 227 D31 := fun e => by
        have h1 := (hTT.1).1
        obtain ⟨_, _, _, tt⟩ := h1
        have h2 := News.get N9 (a := 227) (o := ot9) (by k_mem)
        rw [e, hDz31] at h2; cases h2
      have GG31 := GX.trans G10 G31
      clear F9 N9 K31 t31 e31 hD31 hDz31 hDL31 hbn31 G10 G31 te9
      k_steps
      rename Fr _ _ _ _ => F9
      rename News _ _ _ _ => N9
      rename TopRead _ _ _ _ _ => hT
      rename Frag.In _ _ => hK
      refine (c_div w mg mb (Str.ofString "abcdef g") _ [(0, 7), (7, 8)] wa2 4 _ true (dp + 1) _ _ _ _ _ _ (hK.keeps (Fr.keep F9)) (hT.keeps (Fr.keep F9)) (te31 _ (Fr.keep F9) (News.get N9 (by k_mem))) (by omega) (by (try simp only [units_deeper]); omega) (GX.bare GG31 hg) ok2 (by show (Str.ofString "abcdef g").cps.size < 500; rw [arr2]; decide) (by decide) (by decide) ?_).2 rfl
      rintro D32 vs32 n32 h32 tk32 g32 K32 t32 G32 hD32 hDz32 hI32
      rw [br2] at hI32
      have F32 := frT hz (L_ne hK F9) F9 K32
      obtain ⟨ot32, e32, te32⟩ := tab_ent hTT.1 t32 (Fr.keep F32)
      have hDL32 : @Ne Nat D32 L₁ := fun e => by
        obtain ⟨o, _, _, h1, _⟩ := Fr.ns F9
        rw [← e, hDz32] at h1; cases h1
      have hbn32 := bn (Fr.keep F9) hDz32
      have N32 : News (hideAll s.heap [227]) L₁ h32 [(D32, PySem.W.listOf vs32.toArray n32), (227, ot32)] := fun p hp => by
        rcases List.mem_cons.mp hp with rfl | hp
        · exact ⟨hD32, hDL32, hbn32⟩
        · rw [List.mem_singleton.mp hp]; exact ⟨e32, (L_ne hK F32).symm, hz⟩
      have hD232 : @Ne Nat 227 D32 := fun e => by
        have h1 := (hTT.1).1
        obtain ⟨_, _, _, tt⟩ := h1
        have h2 := News.get N9 (a := 227) (o := ot31) (by k_mem)
        rw [e, hDz32] at h2; cases h2
      have GG32 := GX.trans GG31 G32
      clear F9 N9 K32 t32 e32 hD32 hDz32 hDL32 hbn32 GG31 G32 te31
      k_steps
      rename Fr _ _ _ _ => F9
      rename News _ _ _ _ => N9
      rename TopRead _ _ _ _ _ => hT
      rename Frag.In _ _ => hK
      refine (c_div w mg mb (Str.ofString "abcdef g") _ [(0, 7), (7, 8)] wa2 4 _ false (dp + 1) _ _ _ _ _ _ (hK.keeps (Fr.keep F9)) (hT.keeps (Fr.keep F9)) (te32 _ (Fr.keep F9) (News.get N9 (by k_mem))) (by omega) (by (try simp only [units_deeper]); omega) (GX.bare GG32 hg) ok2 (by show (Str.ofString "abcdef g").cps.size < 500; rw [arr2]; decide) (by decide) (by decide) ?_).1
      rintro D33 vs33 n33 h33 tk33 g33 K33 t33 G33 hD33 hDz33 hI33
      rw [br3] at hI33
      have F33 := frT hz (L_ne hK F9) F9 K33
      obtain ⟨ot33, e33, te33⟩ := tab_ent hTT.1 t33 (Fr.keep F33)
      have hDL33 : @Ne Nat D33 L₁ := fun e => by
        obtain ⟨o, _, _, h1, _⟩ := Fr.ns F9
        rw [← e, hDz33] at h1; cases h1
      have hbn33 := bn (Fr.keep F9) hDz33
      have N33 : News (hideAll s.heap [227]) L₁ h33 [(D33, PySem.W.listOf vs33.toArray n33), (227, ot33)] := fun p hp => by
        rcases List.mem_cons.mp hp with rfl | hp
        · exact ⟨hD33, hDL33, hbn33⟩
        · rw [List.mem_singleton.mp hp]; exact ⟨e33, (L_ne hK F33).symm, hz⟩
      have hD233 : @Ne Nat 227 D33 := fun e => by
        have h1 := (hTT.1).1
        obtain ⟨_, _, _, tt⟩ := h1
        have h2 := News.get N9 (a := 227) (o := ot32) (by k_mem)
        rw [e, hDz33] at h2; cases h2
      have GG33 := GX.trans GG32 G33
      clear F9 N9 K33 t33 e33 hD33 hDz33 hDL33 hbn33 GG32 G33 te32
      k_steps
      rename Fr _ _ _ _ => F9
      rename News _ _ _ _ => N9
      exact hret _ _ _ (keepT_of F9.keep) (te33 _ F9.keep (News.get N9 (by k_mem))) GG33


end Mine
end
section
open PySem PySem.W PySem.W.X PySem.Calls PyProof.Rows
namespace Mine
theorem tab_start {w : World} {mean : ExcName → Option Value} {mg mb : Str → Option Value} {h : Heap} (KX : (hd.heap_39 w.params).In h) (T : Top hd.view_39 LP mean mg mb h) : TabOk h ∧ ∃ ps₀, ps₀ = (#[] : Array Value) ∧ h.TableAt 231 227 ps₀ := by
  have hm : mg (Str.ofString "_cell_len") = some (.ref 232) := mg_of KX T.g (by kernel_rfl)
  have e1 : (match (hd.heap_39 w.params).lookup 232 with | some o => (match o.data with | .func fd => fd.code | _ => .none) | none => .none) = .ref 231 := by kernel_rfl
  have e2 : (match (hd.heap_39 w.params).lookup 231 with | some o => (match o.data with | .fields vs => vs.getD 11 .none | _ => .none) | none => .none) = .ref 227 := by kernel_rfl
  have e3 : mg (Str.ofString "__builtins__") = some (.ref 4) := mg_of KX T.g (by kernel_rfl)
  obtain ⟨bm, ob, b1, b2, b3, b4, b5, b6⟩ := T.bmain
  rw [show mg (Str.ofString "__builtins__") = _ from b1] at e3
  cases e3
  cases l1 : (hd.heap_39 w.params).lookup 232 with
  | none => rw [l1] at e1; cases e1
  | some o =>
    rw [l1] at e1
    dsimp only at e1
    cases hdat : o.data with
    | func fd =>
      rw [hdat] at e1
      dsimp only at e1
      obtain ⟨c, P, hc, B⟩ := based_of_top T (name := Str.ofString "_cell_len") rfl hm (KX _ _ l1) hdat
      rw [e1] at hc
      cases hc
      cases l2 : (hd.heap_39 w.params).lookup 231 with
      | none => rw [l2] at e2; cases e2
      | some o2 =>
        rw [l2] at e2
        dsimp only at e2
        obtain ⟨o3, vs, file, tf, flags, tg, inF, text, tt, op, a1, a2, a3, a4⟩ := id B.code
        rw [KX _ _ l2] at a1
        cases a1
        rw [a2] at e2
        dsimp only at e2
        rw [a3] at e2
        cases e2
        exact ⟨⟨⟨_, B.code, B.tab⟩, ob, b3, b4, b5, b6⟩, _, rfl, B.tab⟩
    | _ => rw [hdat] at e1; cases e1
theorem old_end {h h' : Heap} (t : h.TableAt 231 227 #[]) (k : KeepT h h') (t' : TabOk h') : OldK h h' := by
  obtain ⟨⟨ps, _, q⟩, _⟩ := t'
  refine ⟨fun b o e => ?_, fun b o e => ?_⟩
  · by_cases hb : b = 227
    · subst hb
      have e₀ : o = { cls := .none, data := .fields #[] } := Option.some.inj (e.symm.trans t.2)
      subst e₀
      exact .inr (.inl ⟨t.isCodeTable, rfl, #[], ps, rfl, by rw [q.2, Array.empty_append]⟩)
    · exact .inl (k b o hb e)
  · by_cases hb : b = 227
    · exact ⟨_, hb ▸ q.2⟩
    · exact ⟨_, k b o hb e⟩
end Mine
end
open PySem PySem.W PySem.W.X PySem.Calls PyProof.Rows
theorem PySem.Challenge.cw_ey0021_01_holds : PySem.Challenge.rw_ey0021_01.Holds := by
  refine Mine.hd ?_
  k_fill
  intro w s₀ s₁ mg mb G Y fa o pm cd doc dV kV ho hd' hcd hD hmg hg args vals as hpre hlay hrd hwl hlo
  have KX := kIn_of Y
  refine Ground.open G ?_
  intro T B D TE TW
  wrow_args hpre hlay hrd hwl hlo
  rename IntsAre _ _ => hI
  rename Heap.IsList _ _ _ => hL
  rename ¬ _ < _ => hlen
  have h314 : fa = 314 := by
    have h1 : mg (Str.ofString "law") = some (.ref 314) := mg_of KX T.g (by kernel_rfl)
    rw [show mg (Str.ofString "law") = _ from hmg] at h1
    cases h1; rfl
  subst h314
  obtain ⟨hTab, ps₀, rfl, t0⟩ := Mine.tab_start KX T
  refine Mine.c_law w mg mb _ _ _ _ _ _ _ _ _ _ KX (topRead_of T) hTab (by decide) (by decide) (by rw [hg]; exact AllBare.of_eq rfl) hL hI (by omega) ?_
  intro h' tk' g' k' t' G'
  exact ⟨.inl ⟨_, _, _, rfl, raisesW_false (by wrow_none_raised), ReadsW.bool _, postW_of (by wrow_shape) (by wtm_val) (by w_fin), fun _ => ⟨List.nodup_nil, fun _ h => nomatch h⟩⟩, Mine.old_end t0 k' t', rfl, Mine.GX.bare G' (by rw [hg]; exact AllBare.of_eq rfl)⟩
