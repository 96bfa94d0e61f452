import PyProof.Rows.All
import Wide.All
import OpenK.AllK
import Wide.FinOn
import PySem.Challenge.RW_sn0086_01
open PySem PySem.W PyProof.Rows
set_option Elab.async false
namespace Mine
set_option maxRecDepth 100000
noncomputable def keepL : List Nat := [0, 1, 3, 4, 5, 7, 8, 9, 10, 11, 12, 13, 19, 20, 21, 23, 25, 26, 27, 28, 29, 30, 31, 32, 33, 34, 35]
noncomputable def viewQ : Program := { PySem.Challenge.rw_sn0086_01.row.prog with main := { PySem.Challenge.rw_sn0086_01.row.prog.main with body := keepL.filterMap fun i => PySem.Challenge.rw_sn0086_01.row.prog.main.body[i]? } }
noncomputable def looseL : List Str := ["insort_right", "bisect_right", "bisect_left", "tspecials", "_name_disallowed_re", "_value_disallowed_re", "_formatparam"]
section
local macro_rules | `(tactic| k_qdec) => `(tactic| decide +kernel)
local macro_rules | `(tactic| o_law) => `(tactic| refine holds_law (by (unfold OpenLaw.wellSaid OpenRow.wellSaid OpenRow.partSaid looksOpen; (repeat' (with_reducible refine look_both ?_ ?_)) <;> decide +kernel)) fun said => ?_)
local macro_rules | `(tactic| o_head $H) => `(tactic| (
  refine holds_open (q := viewQ) (loose := looseL) (Xt := fun s => xlAt viewQ [] s && recOk PySem.Challenge.rw_sn0086_01.row.records s) (XP := XL viewQ []) (Yf := Hook.obs $H) (Ya := Hook.val $H) (YP := Hook.says $H) (N := 3676) ?hl (Hook.of $H) (Hook.keeps $H) (fun s e => xl_of s (Bool.and_eq_true_iff.mp e).1) XL.keeps (by rfl) (by rfl) (by rfl) (fun s e => recFacts_of (Bool.and_eq_true_iff.mp e).2) (by rfl) (by first | assumption | decide +kernel) (by decide +kernel) ⟨rfl, rfl, rfl, rfl, rfl, by decide +kernel⟩ ?hw ?hc
  (case hl => (intro w; unfold openEnds fencedOpening topFrom; rw [PySem.W.Fast.te10274390034422433532, PySem.W.Fast.te14082659384304107361, PySem.W.Fast.te1435165496053646825, PySem.W.Fast.te14289696077712309145, PySem.W.Fast.te14364793385576792824, PySem.W.Fast.te4187177175401517315]; kernel_rfl))
  all_goals (try (rename (_ = true) => sd; clear sd))))
set_option maxHeartbeats 8000000 in
open_top hd for PySem.Challenge.rw_sn0086_01
end
theorem top_off_a : True := by
  w_top off
  trivial
end Mine
open PySem PySem.W PyProof.Rows PySem.Calls PySem.Spec
namespace Mine
set_option maxRecDepth 100000
section

theorem tok_add {α : Type} {M : Model} {A : Around} {c : Sem α} {Q : α → Shared → Prop} {E : Value → Shared → Prop} {h : Heap} {gs : Array GenState} {dr : Drawn} {a b : Nat} {os : OsState} (k : ∀ tk : Nat, wpAny M A c Q E ⟨h, gs, dr, tk, os⟩) : wpAny M A c Q E ⟨h, gs, dr, a + b, os⟩ := k _
theorem tok_st {M : Model} {A : Around} {Q : Unit → Shared → Prop} {E : Value → Shared → Prop} {s : Shared} {env : Env} {n : Str} {y : Int} {a b : Nat} (k : ∀ t : Tok, wpAny M A (storeName env n (.int y t)) Q E s) : wpAny M A (storeName env n (.int y (a + b))) Q E s := k _
theorem tok_sp {M : Model} {A : Around} {Q : Unit → Shared → Prop} {E : Value → Shared → Prop} {s S : Shared} {env : Env} {n : Str} {y : Int} (k : ∀ t : Tok, wpAny M A (storeName env n (.int y t)) Q E s) : wpAny M A (storeName env n (.int y S.toks)) Q E s := k _

/-- the part of the ledger that the callee does not see stays as it was -/
noncomputable def Kept (rest : List (Addr × Obj)) (h : Heap) : Prop := ∀ p ∈ rest, h.get? p.1 = some p.2
noncomputable def ClEnd (rest : List (Addr × Obj)) (h : Heap) (P : Prop) : Prop := Kept rest h → P
noncomputable def Off (vis rest : List (Addr × Obj)) : Prop := ∀ q ∈ vis, ∀ p ∈ rest, p.1 ≠ q.1
theorem Off.nil {rest : List (Addr × Obj)} : Off [] rest := fun _ h => nomatch h

section
variable {prog : Program} {w : World} {A₀ A : Around} {s : Shared} {base h₀ : Heap} {outer : List Env} {L : Addr} {m : Str → Option Value} {env : Env} {vis rest : List (Addr × Obj)} {K : Frag} {p : Program} {loose : List Str} {mean : ExcName → Option Value} {mg mb : Str → Option Value}
  {R : Result → Shared → Prop} {name qual : Str} {params : Arguments} {body : List Stmt} {scope : Scope} {dV kV doc pm cdv ct oc : Value} {an od : Option Addr} {osl : Array (Option Value)} {f : Addr} {args : Args} {binds : List (Str × Value)}

theorem kept_of {g h : Heap} {L' : Addr} {m' : Str → Option Value} (N : News h₀ L s.heap (vis ++ rest)) (O : Off vis rest) (hg : g = hideAll s.heap (vis.map (·.1))) (F : Fr g L' h m') : Kept rest h := fun q hq => by
  subst hg
  refine F.keep q.1 q.2 (hideAll_get _ (N q (List.mem_append_right _ hq)).1 fun hm => ?_)
  obtain ⟨r, hr, e⟩ := List.mem_map.mp hm
  exact O r hr q hq e.symm

theorem code_defV (B : Below A₀ base outer h₀) (F : Fr h₀ L s.heap m) (X₀ : K.In h₀) (N : News h₀ L s.heap (vis ++ rest)) (O : Off vis rest) (T : Top p loose mean mg mb h₀) (hA : A.frames = some (env :: outer)) (hf : env.frame = some L) (hke : env.scope.kind = .function)
    (ho : K.lookup f = some ⟨oc, od, .func (fnOf name qual params body scope dV kV doc pm an cdv ct), osl⟩) (hcd : codeIn K cdv qual = true) (hroom : A.depth < recursionLimit)
    (hbind : BindsTo s (fnOf name qual params body scope dV kV doc pm an cdv ct) args binds) (hloc : ∀ y ∈ binds, scope.names.lookup y.1 = some .local)
    (h : ∀ g L' h₁, Fr h₀ L g m → Fr g L' h₁ (fun y => binds.reverse.lookup y) → News g L' h₁ vis → Below A base (env :: outer) g → K.In g → Top p loose mean mg mb g → (∀ q ∈ vis, q.1 < L') → s.heap.objs.size ≤ L' →
      wpAny (model prog w) (A.deeper (envOf qual scope L' f cdv)) (execs body (envOf qual scope L' f cdv))
        (fun fl s' => LeaveK h₀ L m g (fun r s'' => ClEnd rest s''.heap (R r s'')) (match fl with | .ret v => v | _ => .none) s')
        (fun e s' => wpAny (model prog w) (A.deeper (envOf qual scope L' f cdv)) (leaving (envOf qual scope L' f cdv) e) (fun _ s'' => R (.error e) s'') (fun e' s'' => R (.error e') s'') s')
        { s with heap := h₁, toks := s.toks + binds.length })
    (hco : scope.isCoroutine = false) (hgen : scope.isGenerator = false) (hk : scope.kind = .function)
    (hcell : ∀ x ∈ scope.names, x.2 ≠ .cell) : codeAny (model prog w) A (.call (.ref f) args) R s := by
  have NV : News h₀ L s.heap vis := fun q hq => N q (List.mem_append_left _ hq)
  obtain ⟨FG, BG, st, lv⟩ := groundX (R := fun r s'' => ClEnd rest s''.heap (R r s'')) B F NV hA hf hke
  refine codeAny_call_def (fd := fnOf name qual params body scope dV kV doc pm an cdv ct) (body := body) (binds := binds) hroom ((X₀.keeps F.keep) _ _ ho) rfl (T.nolimit.keeps F.keep) (codeRec_of (X₀.keeps F.keep) hcd) rfl hbind hcell hloc (fun h₁ hns hk₁ => ?_) hco hgen hk
  refine wpAny_mono (h _ s.heap.objs.size h₁ FG ⟨hns, fun b o e => hk₁ b o (of_hideAll _ e), Nat.le_of_eq (hideAll_size _ _)⟩
    (fun q hq => ⟨hk₁ _ _ (NV q hq).1, Nat.ne_of_lt (Heap.lt_size (NV q hq).1), hideAll_none _ (List.mem_map_of_mem hq)⟩) BG (X₀.keeps st) (T.keeps st) (fun q hq => Heap.lt_size (NV q hq).1) (Nat.le_refl _)) (fun fl s' hl => ?_) fun _ _ y => y
  have q := lv _ _ hl
  obtain ⟨L', m', news', F', _, _⟩ := hl
  exact q (kept_of N O rfl F')

theorem code_defCV (B : Below A₀ base outer h₀) (F : Fr h₀ L s.heap m) (X₀ : K.In h₀) (N : News h₀ L s.heap (vis ++ rest)) (O : Off vis rest) (T : Top p loose mean mg mb h₀) (hA : A.frames = some (env :: outer)) (hf : env.frame = some L) (hke : env.scope.kind = .function)
    (ho : K.lookup f = some ⟨oc, od, .func (fnOf name qual params body scope dV kV doc pm an cdv ct), osl⟩) (hcd : codeIn K cdv qual = true) (hroom : A.depth < recursionLimit)
    (hbind : BindsTo s (fnOf name qual params body scope dV kV doc pm an cdv ct) args binds) (hkind : (binds.all fun y => scope.names.lookup y.1 == some .local || scope.names.lookup y.1 == some .cell) = true)
    (hnd : ((cellsFrom 0 scope.names []).map (·.1)).Nodup)
    (h : ∀ g L' h₁ tk cells, Fr h₀ L g m → Fr g L' h₁ (bindL (envOfC qual scope L' f cdv).kindOf binds fun _ => none) → News g L' h₁ (cells ++ vis) →
      CellsAre (bindC (envOfC qual scope L' f cdv).kindOf binds fun _ => none) (cellsFrom (L' + 1) scope.names []) cells → Below A base (env :: outer) g → K.In g → Top p loose mean mg mb g → (∀ q ∈ vis, q.1 < L') → s.heap.objs.size ≤ L' →
      wpAny (model prog w) (A.deeper (envOfC qual scope L' f cdv)) (execs body (envOfC qual scope L' f cdv))
        (fun fl s' => LeaveK h₀ L m g (fun r s'' => ClEnd rest s''.heap (R r s'')) (match fl with | .ret v => v | _ => .none) s')
        (fun e s' => wpAny (model prog w) (A.deeper (envOfC qual scope L' f cdv)) (leaving (envOfC qual scope L' f cdv) e) (fun _ s'' => R (.error e) s'') (fun e' s'' => R (.error e') s'') s')
        { s with heap := h₁, toks := tk })
    (hco : scope.isCoroutine = false) (hgen : scope.isGenerator = false) (hk : scope.kind = .function) : codeAny (model prog w) A (.call (.ref f) args) R s := by
  have NV : News h₀ L s.heap vis := fun q hq => N q (List.mem_append_left _ hq)
  obtain ⟨FG, BG, st, lv⟩ := groundX (R := fun r s'' => ClEnd rest s''.heap (R r s'')) B F NV hA hf hke
  refine codeAny_call_function hroom ((X₀.keeps F.keep) _ _ ho) rfl hco hgen rfl (codeRec_of (X₀.keeps F.keep) hcd) (hbind _ _ _ _ ?_)
  refine wpAny_newFunctionEnv_cells hk (kindsX hkind _) fun env' he s' x => ?_
  subst he
  refine ⟨(T.nolimit.keeps F.keep).keeps x.toInCall.keep, codeAny_func ?_⟩
  obtain ⟨h₁, tk, rfl, _⟩ := x.done
  have hk₁ := x.toInCall.keep
  obtain ⟨cells, NC, Y⟩ := Cl.news (h₀ := s.heap) (Nat.le_refl _) fun n c hm => ⟨x.cell n c (lookup_of_mem_nodup (cellsFrom_names scope.names 0 (s.heap.objs.size + 1) [] [] rfl ▸ hnd) hm), x.above n c hm⟩
  refine wpAny_mono (h _ s.heap.objs.size h₁ tk cells FG ⟨x.toInCall.ns, fun b o e => hk₁ b o (of_hideAll _ e), Nat.le_of_eq (hideAll_size _ _)⟩ (fun q hq => ?_) Y BG (X₀.keeps st) (T.keeps st) (fun q hq => Heap.lt_size (NV q hq).1) (Nat.le_refl _)) (fun fl s' hl => ?_) fun _ _ y => y
  · rcases List.mem_append.mp hq with hq | hq
    · refine ⟨(NC q hq).1, (NC q hq).2.1, ?_⟩
      cases z : (hideAll s.heap (vis.map (·.1))).get? q.1 with
      | none => rfl
      | some o => have := of_hideAll _ z; rw [(NC q hq).2.2] at this; cases this
    · exact ⟨hk₁ _ _ (NV q hq).1, Nat.ne_of_lt (Heap.lt_size (NV q hq).1), hideAll_none _ (List.mem_map_of_mem hq)⟩
  · have q := lv _ _ hl
    obtain ⟨L', m', news', F', _, _⟩ := hl
    exact q (kept_of N O rfl F')
end

/-- the code tables of the two defs that make a def -/
noncomputable def Cds (base : Heap) : Prop := CodeHd base 65 61 ∧ CodeHd base 72 68
/-- what a call of one of the text's own functions does: `vis` is what it sees of the ledger, `rest` what it does not -/
abbrev Cl (w : World) (p : Program) (loose : List Str) (mean : ExcName → Option Value) (mg mb : Str → Option Value) (f : Addr) (dd du : Nat) (vs : List Value) (vis : List (Addr × Obj)) (Ret : Addr → Value → List (Addr × Obj) → Prop) : Prop :=
  ∀ (rest : List (Addr × Obj)) (dp un : Nat) (gd : Option (List Code)) (cn : Str) (cs : Scope) (a : Addr) (ccd : Value) (cl : List (Str × Addr)) (outer : List Env) (A₀ : Around) (base h₀ : Heap) (L : Addr) (m : Str → Option Value) (s : Shared) (Q E : Value → Shared → Prop),
    Below A₀ base outer h₀ → Cds base → Fr h₀ L s.heap m → (hd.heap_39 w.params).In h₀ → News h₀ L s.heap (vis ++ rest) → Off vis rest → Top p loose mean mg mb h₀ → cs.kind = .function →
    dp + dd < recursionLimit → un + du < cLine →
    (∀ v vis' h' tk', Ret s.heap.objs.size v vis' → Fr h₀ L h' m → News h₀ L h' (vis' ++ rest) → Q v { s with heap := h', toks := tk' }) →
    wpAny (model PySem.Challenge.rw_sn0086_01.row.prog w) (ktrTop dp un gd cn cs L a ccd cl outer) (call (.ref f) vs) Q E s

section
variable {w : World} {p : Program} {loose : List Str} {mean : ExcName → Option Value} {mg mb : Str → Option Value}
theorem cl_use {f : Addr} {dd du : Nat} {vs : List Value} {vis : List (Addr × Obj)} {Ret : Addr → Value → List (Addr × Obj) → Prop}
    {rest all : List (Addr × Obj)} {dp un : Nat} {gd : Option (List Code)} {cn : Str} {cs : Scope} {a : Addr} {ccd : Value} {cl : List (Str × Addr)} {outer : List Env} {A₀ : Around} {base h₀ : Heap} {L : Addr} {m : Str → Option Value} {s : Shared} {Q E : Value → Shared → Prop}
    (C : Cl w p loose mean mg mb f dd du vs vis Ret)
    (B : Below A₀ base outer h₀) (CD : Cds base) (F : Fr h₀ L s.heap m) (X : (hd.heap_39 w.params).In h₀) (N : News h₀ L s.heap all) (ha : ∀ q ∈ vis ++ rest, q ∈ all) (O : Off vis rest) (T : Top p loose mean mg mb h₀) (hk : cs.kind = .function)
    (hd : dp + dd < recursionLimit) (hu : un + du < cLine)
    (ret : ∀ lim v vis' h' tk', (∀ q ∈ all, q.1 < lim) → Ret lim v vis' → Fr h₀ L h' m → News h₀ L h' (vis' ++ rest) → Q v { s with heap := h', toks := tk' }) :
    wpAny (model PySem.Challenge.rw_sn0086_01.row.prog w) (ktrTop dp un gd cn cs L a ccd cl outer) (call (.ref f) vs) Q E s :=
  C rest dp un gd cn cs a ccd cl outer A₀ base h₀ L m s Q E B CD F X (fun q hq => N q (ha q hq)) O T hk hd hu (ret _ · · · · fun q hq => Heap.lt_size (N q hq).1)
/-- a call that sees nothing of the ledger -/
theorem cl_use0 {f : Addr} {dd du : Nat} {vs : List Value} {Ret : Addr → Value → List (Addr × Obj) → Prop}
    {all : List (Addr × Obj)} {dp un : Nat} {gd : Option (List Code)} {cn : Str} {cs : Scope} {a : Addr} {ccd : Value} {cl : List (Str × Addr)} {outer : List Env} {A₀ : Around} {base h₀ : Heap} {L : Addr} {m : Str → Option Value} {s : Shared} {Q E : Value → Shared → Prop}
    (C : Cl w p loose mean mg mb f dd du vs [] Ret)
    (B : Below A₀ base outer h₀) (CD : Cds base) (F : Fr h₀ L s.heap m) (X : (hd.heap_39 w.params).In h₀) (N : News h₀ L s.heap all) (T : Top p loose mean mg mb h₀) (hk : cs.kind = .function)
    (hd : dp + dd < recursionLimit) (hu : un + du < cLine)
    (ret : ∀ lim v vis' h' tk', (∀ q ∈ all, q.1 < lim) → Ret lim v vis' → Fr h₀ L h' m → News h₀ L h' (vis' ++ all) → Q v { s with heap := h', toks := tk' }) :
    wpAny (model PySem.Challenge.rw_sn0086_01.row.prog w) (ktrTop dp un gd cn cs L a ccd cl outer) (call (.ref f) vs) Q E s :=
  C all dp un gd cn cs a ccd cl outer A₀ base h₀ L m s Q E B CD F X N Off.nil T hk hd hu (ret _ · · · · fun q hq => Heap.lt_size (N q hq).1)
end

/-- the call gives an int back and leaves what it saw as it was -/
abbrev RInt (vis : List (Addr × Obj)) (i : Int) : Addr → Value → List (Addr × Obj) → Prop := fun _ v n => n = vis ∧ ∃ t, v = .int i t
abbrev RBool (vis : List (Addr × Obj)) (b : Bool) : Addr → Value → List (Addr × Obj) → Prop := fun _ v n => n = vis ∧ v = .bool b
abbrev RStr (vis : List (Addr × Obj)) (x : Str) : Addr → Value → List (Addr × Obj) → Prop := fun _ v n => n = vis ∧ ∃ t, v = .str x t
abbrev RNone (vis : List (Addr × Obj)) : Addr → Value → List (Addr × Obj) → Prop := fun _ v n => n = vis ∧ v = .none
section
variable {h₀ h' h₁ : Heap} {L : Addr} {m : Str → Option Value} {vis vis' vis2 rest : List (Addr × Obj)} {s : Shared} {Q : Value → Shared → Prop} {t : Tok} {tk' : Nat} {Ret : Addr → Value → List (Addr × Obj) → Prop} {v : Value}
theorem cl_end (hret : ∀ v vis' h' tk', Ret s.heap.objs.size v vis' → Fr h₀ L h' m → News h₀ L h' (vis' ++ rest) → Q v { s with heap := h', toks := tk' }) (N : News h₀ L h₁ (vis ++ rest))
    (F : Fr h₀ L h' m) (N2 : News h₀ L h' vis2) (hn : ∀ q ∈ vis', q ∈ vis2) (e : Ret s.heap.objs.size v vis') : ClEnd rest h' (Q v { s with heap := h', toks := tk' }) := fun hr =>
  hret _ _ _ _ e F fun q hq => by
    rcases List.mem_append.mp hq with hq | hq
    · exact N2 q (hn q hq)
    · exact ⟨hr q hq, (N q (List.mem_append_right _ hq)).2⟩
theorem r_int {lim : Addr} {x y : Int} (e : y = x) : RInt vis x lim (.int y t) vis := ⟨rfl, t, by rw [e]⟩
theorem r_str {lim : Addr} {x y : Str} (e : y = x) : RStr vis x lim (.str y t) vis := ⟨rfl, t, by rw [e]⟩
theorem r_bool {lim : Addr} {x y : Bool} (e : y = x) : RBool vis x lim (.bool y) vis := ⟨rfl, by rw [e]⟩
end
end
variable {w : World} {p : Program} {loose : List Str} {mean : ExcName → Option Value} {mg mb : Str → Option Value}

local macro_rules | `(tactic| walk_at $s:str) => do
  let k := Lean.Syntax.mkStrLit ("m:" ++ s.getString)
  `(tactic| k_extra $k)
section
noncomputable def subst (a b : Str) : Int := if a = b then 0 else if Txt.lower a = Txt.lower b then 1 else 2
theorem rows_a0 : True := by
  k_with_none
  k_with "m:cl enter" => (((refine wpAny_call ?_); k_dflt (refine' code_defV ?k1 ?k2 ?k3 ?k4 ?kO ?k5 ?kA ?kF ?kK ?k6 ?k7 ?k8 ?k9 ?kB ?_ ?c2 ?c3 ?c4 ?c5; (case kA => exact rfl); (case kF => exact rfl); (case kK => assumption); (case k1 => k_asm); (case k2 => k_asm); (case k3 => k_asm); (case k4 => k_asm); (case kO => k_asm); (case k5 => k_asm); (case k6 => k_is); (case k7 => k_is); (case k8 => ktr_room); (case k9 => first | exact BindsTo.of_eq rfl | exact binds_K (by k_in) rfl (by k_is) rfl rfl rfl | (refine' kp_binds ?kx ?ke; (case kx => k_in); (case ke => exact fun _ => rfl))); (case c5 => decide); (case kB => exact locs rfl); (case c2 => exact rfl); (case c3 => exact rfl); (case c4 => exact rfl); k_whole; intro g' L' h' FG' F' N' B' X' T' l1 lim'; (try k_lt l1); (try dsimp only); (try k_fold))))
  k_with "m:cl enterC" => (((refine wpAny_call ?_); k_dflt (refine' code_defCV ?k1 ?k2 ?k3 ?k4 ?kO ?k5 ?kA ?kF ?kK ?k6 ?k7 ?k8 ?k9 ?kB ?kD ?_ ?c2 ?c3 ?c4; (case kA => exact rfl); (case kF => exact rfl); (case kK => assumption); (case k1 => k_asm); (case k2 => k_asm); (case k3 => k_asm); (case k4 => k_asm); (case kO => k_asm); (case k5 => k_asm); (case k6 => k_is); (case k7 => k_is); (case k8 => ktr_room); (case k9 => first | exact BindsTo.of_eq rfl | exact binds_K (by k_in) rfl (by k_is) rfl rfl rfl | (refine' kp_binds ?kx ?ke; (case kx => k_in); (case ke => exact fun _ => rfl))); (case kB => exact rfl); (case kD => decide +kernel); (case c2 => exact rfl); (case c3 => exact rfl); (case c4 => exact rfl); k_whole; intro g' L' h' tk' cells' FG' F' N' Y' B' X' T' l1 lim'; (try k_lt l1); k_cells Y'; (try simp only [List.cons_append, List.nil_append] at N'); (try dsimp only); (try k_fold))))
  k_with "m:cl sub" => (first | exact fun _ h => h | exact List.forall_mem_nil _ | kcj_all)
  k_with "m:cl end" => ((refine' cl_end ?h ?N ?F ?N2 ?_ ?_; (case h => assumption); (case N => assumption); (case F => k_asm); (case N2 => k_asm); rotate_left))
  k_with "m:cl int" => ((refine' cl_end ?h ?N ?F ?N2 ?hn (r_int ?_); (case h => assumption); (case N => assumption); (case F => k_asm); (case N2 => k_asm); (case hn => walk_at "cl sub")))
  k_with "m:cl str" => ((refine' cl_end ?h ?N ?F ?N2 ?hn (r_str ?_); (case h => assumption); (case N => assumption); (case F => k_asm); (case N2 => k_asm); (case hn => walk_at "cl sub")))
  k_with "m:cl bool" => ((refine' cl_end ?h ?N ?F ?N2 ?hn (r_bool ?_); (case h => assumption); (case N => assumption); (case F => k_asm); (case N2 => k_asm); (case hn => walk_at "cl sub")))
  k_with "m:call builtin:list.append" => ((k_here; (with_reducible show wpAny _ _ (call (Value.builtin _) [Value.ref _, _]) _ _ _); k_dflt (refine' append_K ?k1 ?k2 ?k3 ?_ ?z; (case k1 => k_asm); (case k2 => k_asm); (case k3 => k_upd); (case z => exact Nat.le_of_ble_eq_true rfl); k_whole); intro h' F' N'; (try k_sweep)))
  k_with "m:call ref" => ((k_here; k_dflt (k_extra "call ref")))
  k_with "m:cl off1" => (first | exact List.forall_mem_nil _ | exact OwnOff.ne (by assumption) (by simp) | (refine List.forall_mem_cons.mpr ⟨?_, ?_⟩ <;> walk_at "cl off1") | k_ne)
  k_with "m:cl off" => ((unfold Off; walk_at "cl off1"))
  k_with "m:cl mem" => (first | exact List.forall_mem_nil _ | (refine List.forall_mem_cons.mpr ⟨by k_mem, ?_⟩; walk_at "cl mem") | (intro p9 h9; kst_mem))
  k_with "m:cl all" => (((try simp only [List.cons_append, List.nil_append, List.append_nil]); walk_at "cl mem"))
  k_with "m:execs cons" => ((k_here; (with_reducible refine tok_add ?_); intro tk; (try dsimp only); (try k_fold)))
  k_with "m:storeName" => ((k_here; first | ((with_reducible refine tok_sp ?_); intro t9) | ((with_reducible refine tok_st ?_); intro t9)))
  trivial
set_option maxHeartbeats 4000000 in
theorem subst_cl (x y : Str) (tx ty : Tok) (hx : x.length ≤ 100) (hy : y.length ≤ 100) :
    Cl w p loose mean mg mb 45 2 20 [.str x tx, .str y ty] [] (RInt [] (subst x y)) := by
  unfold Cl
  k_fill
  intro rest dp un gd cn cs a ccd cl outer A₀ base h₀ L m s Q E B CD F X N O T hk hd hu hret
  walk_at "cl enter"
  k_steps
  all_goals (walk_at "cl int"; unfold subst; simp_all; done)

end
section
theorem rows_a1 : True := by
  k_with_none
  k_with "m:cl enter" => (((refine wpAny_call ?_); k_dflt (refine' code_defV ?k1 ?k2 ?k3 ?k4 ?kO ?k5 ?kA ?kF ?kK ?k6 ?k7 ?k8 ?k9 ?kB ?_ ?c2 ?c3 ?c4 ?c5; (case kA => exact rfl); (case kF => exact rfl); (case kK => assumption); (case k1 => k_asm); (case k2 => k_asm); (case k3 => k_asm); (case k4 => k_asm); (case kO => k_asm); (case k5 => k_asm); (case k6 => k_is); (case k7 => k_is); (case k8 => ktr_room); (case k9 => first | exact BindsTo.of_eq rfl | exact binds_K (by k_in) rfl (by k_is) rfl rfl rfl | (refine' kp_binds ?kx ?ke; (case kx => k_in); (case ke => exact fun _ => rfl))); (case c5 => decide); (case kB => exact locs rfl); (case c2 => exact rfl); (case c3 => exact rfl); (case c4 => exact rfl); k_whole; intro g' L' h' FG' F' N' B' X' T' l1 lim'; (try k_lt l1); (try dsimp only); (try k_fold))))
  k_with "m:cl enterC" => (((refine wpAny_call ?_); k_dflt (refine' code_defCV ?k1 ?k2 ?k3 ?k4 ?kO ?k5 ?kA ?kF ?kK ?k6 ?k7 ?k8 ?k9 ?kB ?kD ?_ ?c2 ?c3 ?c4; (case kA => exact rfl); (case kF => exact rfl); (case kK => assumption); (case k1 => k_asm); (case k2 => k_asm); (case k3 => k_asm); (case k4 => k_asm); (case kO => k_asm); (case k5 => k_asm); (case k6 => k_is); (case k7 => k_is); (case k8 => ktr_room); (case k9 => first | exact BindsTo.of_eq rfl | exact binds_K (by k_in) rfl (by k_is) rfl rfl rfl | (refine' kp_binds ?kx ?ke; (case kx => k_in); (case ke => exact fun _ => rfl))); (case kB => exact rfl); (case kD => decide +kernel); (case c2 => exact rfl); (case c3 => exact rfl); (case c4 => exact rfl); k_whole; intro g' L' h' tk' cells' FG' F' N' Y' B' X' T' l1 lim'; (try k_lt l1); k_cells Y'; (try simp only [List.cons_append, List.nil_append] at N'); (try dsimp only); (try k_fold))))
  k_with "m:cl sub" => (first | exact fun _ h => h | exact List.forall_mem_nil _ | kcj_all)
  k_with "m:cl end" => ((refine' cl_end ?h ?N ?F ?N2 ?_ ?_; (case h => assumption); (case N => assumption); (case F => k_asm); (case N2 => k_asm); rotate_left))
  k_with "m:cl int" => ((refine' cl_end ?h ?N ?F ?N2 ?hn (r_int ?_); (case h => assumption); (case N => assumption); (case F => k_asm); (case N2 => k_asm); (case hn => walk_at "cl sub")))
  k_with "m:cl str" => ((refine' cl_end ?h ?N ?F ?N2 ?hn (r_str ?_); (case h => assumption); (case N => assumption); (case F => k_asm); (case N2 => k_asm); (case hn => walk_at "cl sub")))
  k_with "m:cl bool" => ((refine' cl_end ?h ?N ?F ?N2 ?hn (r_bool ?_); (case h => assumption); (case N => assumption); (case F => k_asm); (case N2 => k_asm); (case hn => walk_at "cl sub")))
  k_with "m:call builtin:list.append" => ((k_here; (with_reducible show wpAny _ _ (call (Value.builtin _) [Value.ref _, _]) _ _ _); k_dflt (refine' append_K ?k1 ?k2 ?k3 ?_ ?z; (case k1 => k_asm); (case k2 => k_asm); (case k3 => k_upd); (case z => exact Nat.le_of_ble_eq_true rfl); k_whole); intro h' F' N'; (try k_sweep)))
  k_with "m:call ref" => ((k_here; k_dflt (k_extra "call ref")))
  k_with "m:cl off1" => (first | exact List.forall_mem_nil _ | exact OwnOff.ne (by assumption) (by simp) | (refine List.forall_mem_cons.mpr ⟨?_, ?_⟩ <;> walk_at "cl off1") | k_ne)
  k_with "m:cl off" => ((unfold Off; walk_at "cl off1"))
  k_with "m:cl mem" => (first | exact List.forall_mem_nil _ | (refine List.forall_mem_cons.mpr ⟨by k_mem, ?_⟩; walk_at "cl mem") | (intro p9 h9; kst_mem))
  k_with "m:cl all" => (((try simp only [List.cons_append, List.nil_append, List.append_nil]); walk_at "cl mem"))
  k_with "m:execs cons" => ((k_here; (with_reducible refine tok_add ?_); intro tk; (try dsimp only); (try k_fold)))
  k_with "m:storeName" => ((k_here; first | ((with_reducible refine tok_sp ?_); intro t9) | ((with_reducible refine tok_st ?_); intro t9)))
  trivial
theorem rhs_norm {M : Model} {A : Around} {Q E : Value → Shared → Prop} {s : Shared} {op : Operator} {l : Value} {y y' : Int} {ty : Tok} (e : y = y') (h : wpAny M A (binaryOp op l (.int y' ty)) Q E s) : wpAny M A (binaryOp op l (.int y ty)) Q E s := e ▸ h
theorem store_norm {M : Model} {A : Around} {Q : Unit → Shared → Prop} {E : Value → Shared → Prop} {s : Shared} {env : Env} {n : Str} {y y' : Int} {ty : Tok} (e : y = y') (h : wpAny M A (storeName env n (.int y' ty)) Q E s) : wpAny M A (storeName env n (.int y ty)) Q E s := e ▸ h
theorem band_small (x : Int) (c : Nat) (h : c < 256) : (Builtin.bitAnd x (c : Int)).natAbs < 2 ^ 64 := by
  have := bitAnd_range x (y := (c : Int)) (by omega)
  omega
/-- one letter's turn: what stays when it is turned too -/
@[irreducible] noncomputable def cstep (x : Int) (n : Nat) (c : Int) : Int := Builtin.bitAnd x (Builtin.bitOr (Builtin.bitAnd (x.fdiv (2 ^ n)) c) (Builtin.bitAnd x c * 2 ^ n))
theorem cstep_eq (x : Int) (n : Nat) (c : Int) : Builtin.bitAnd x (Builtin.bitOr (Builtin.bitAnd (x.fdiv (2 ^ n)) c) (Builtin.bitAnd x c * 2 ^ n)) = cstep x n c := by unfold cstep; rfl
noncomputable def closedF (x l : Int) : Int :=
  let a := if Builtin.bitAnd (l.fdiv (2 ^ Int.toNat 0)) 1 ≠ 0 then cstep x 1 85 else x
  let b := if Builtin.bitAnd (l.fdiv (2 ^ Int.toNat 1)) 1 ≠ 0 then cstep a 2 51 else a
  if Builtin.bitAnd (l.fdiv (2 ^ Int.toNat 2)) 1 ≠ 0 then cstep b 4 15 else b
theorem way_t {c : Int} {a b : Int} (h : c ≠ 0) : a = if c ≠ 0 then a else b := by rw [if_pos h]
theorem way_f {c : Int} {a b : Int} (h : c = 0) : b = if c ≠ 0 then a else b := by rw [if_neg (fun q => q h)]
theorem closed_way {x l a b r : Int} (h0 : a = if Builtin.bitAnd (l.fdiv (2 ^ Int.toNat 0)) 1 ≠ 0 then cstep x 1 85 else x) (h1 : b = if Builtin.bitAnd (l.fdiv (2 ^ Int.toNat 1)) 1 ≠ 0 then cstep a 2 51 else a)
    (h2 : r = if Builtin.bitAnd (l.fdiv (2 ^ Int.toNat 2)) 1 ≠ 0 then cstep b 4 15 else b) : r = closedF x l := by subst h0; subst h1; exact h2
theorem rows_a2 : True := by
  k_with_none
  k_with "m:cl enter" => (((refine wpAny_call ?_); k_dflt (refine' code_defV ?k1 ?k2 ?k3 ?k4 ?kO ?k5 ?kA ?kF ?kK ?k6 ?k7 ?k8 ?k9 ?kB ?_ ?c2 ?c3 ?c4 ?c5; (case kA => exact rfl); (case kF => exact rfl); (case kK => assumption); (case k1 => k_asm); (case k2 => k_asm); (case k3 => k_asm); (case k4 => k_asm); (case kO => k_asm); (case k5 => k_asm); (case k6 => k_is); (case k7 => k_is); (case k8 => ktr_room); (case k9 => first | exact BindsTo.of_eq rfl | exact binds_K (by k_in) rfl (by k_is) rfl rfl rfl | (refine' kp_binds ?kx ?ke; (case kx => k_in); (case ke => exact fun _ => rfl))); (case c5 => decide); (case kB => exact locs rfl); (case c2 => exact rfl); (case c3 => exact rfl); (case c4 => exact rfl); k_whole; intro g' L' h' FG' F' N' B' X' T' l1 lim'; (try k_lt l1); (try dsimp only); (try k_fold))))
  k_with "m:cl enterC" => (((refine wpAny_call ?_); k_dflt (refine' code_defCV ?k1 ?k2 ?k3 ?k4 ?kO ?k5 ?kA ?kF ?kK ?k6 ?k7 ?k8 ?k9 ?kB ?kD ?_ ?c2 ?c3 ?c4; (case kA => exact rfl); (case kF => exact rfl); (case kK => assumption); (case k1 => k_asm); (case k2 => k_asm); (case k3 => k_asm); (case k4 => k_asm); (case kO => k_asm); (case k5 => k_asm); (case k6 => k_is); (case k7 => k_is); (case k8 => ktr_room); (case k9 => first | exact BindsTo.of_eq rfl | exact binds_K (by k_in) rfl (by k_is) rfl rfl rfl | (refine' kp_binds ?kx ?ke; (case kx => k_in); (case ke => exact fun _ => rfl))); (case kB => exact rfl); (case kD => decide +kernel); (case c2 => exact rfl); (case c3 => exact rfl); (case c4 => exact rfl); k_whole; intro g' L' h' tk' cells' FG' F' N' Y' B' X' T' l1 lim'; (try k_lt l1); k_cells Y'; (try simp only [List.cons_append, List.nil_append] at N'); (try dsimp only); (try k_fold))))
  k_with "m:cl sub" => (first | exact fun _ h => h | exact List.forall_mem_nil _ | kcj_all)
  k_with "m:cl end" => ((refine' cl_end ?h ?N ?F ?N2 ?_ ?_; (case h => assumption); (case N => assumption); (case F => k_asm); (case N2 => k_asm); rotate_left))
  k_with "m:cl int" => ((refine' cl_end ?h ?N ?F ?N2 ?hn (r_int ?_); (case h => assumption); (case N => assumption); (case F => k_asm); (case N2 => k_asm); (case hn => walk_at "cl sub")))
  k_with "m:cl str" => ((refine' cl_end ?h ?N ?F ?N2 ?hn (r_str ?_); (case h => assumption); (case N => assumption); (case F => k_asm); (case N2 => k_asm); (case hn => walk_at "cl sub")))
  k_with "m:cl bool" => ((refine' cl_end ?h ?N ?F ?N2 ?hn (r_bool ?_); (case h => assumption); (case N => assumption); (case F => k_asm); (case N2 => k_asm); (case hn => walk_at "cl sub")))
  k_with "m:call builtin:list.append" => ((k_here; (with_reducible show wpAny _ _ (call (Value.builtin _) [Value.ref _, _]) _ _ _); k_dflt (refine' append_K ?k1 ?k2 ?k3 ?_ ?z; (case k1 => k_asm); (case k2 => k_asm); (case k3 => k_upd); (case z => exact Nat.le_of_ble_eq_true rfl); k_whole); intro h' F' N'; (try k_sweep)))
  k_with "m:call ref" => ((k_here; k_dflt (k_extra "call ref")))
  k_with "m:cl off1" => (first | exact List.forall_mem_nil _ | exact OwnOff.ne (by assumption) (by simp) | (refine List.forall_mem_cons.mpr ⟨?_, ?_⟩ <;> walk_at "cl off1") | k_ne)
  k_with "m:cl off" => ((unfold Off; walk_at "cl off1"))
  k_with "m:cl mem" => (first | exact List.forall_mem_nil _ | (refine List.forall_mem_cons.mpr ⟨by k_mem, ?_⟩; walk_at "cl mem") | (intro p9 h9; kst_mem))
  k_with "m:cl all" => (((try simp only [List.cons_append, List.nil_append, List.append_nil]); walk_at "cl mem"))
  k_with "m:execs cons" => ((k_here; (with_reducible refine tok_add ?_); intro tk; (try dsimp only); (try k_fold)))
  k_with "m:storeName" => ((k_here; first | ((with_reducible refine tok_sp ?_); intro t9) | ((with_reducible refine tok_st ?_); intro t9)))
  k_with "m:norm rhs" => (first | (refine' rhs_norm (y' := 0) ?e ?_; (case e => ((fail_if_success (with_reducible rfl)); decide))) | (refine' rhs_norm (y' := 1) ?e ?_; (case e => ((fail_if_success (with_reducible rfl)); decide))) | (refine' rhs_norm (y' := 2) ?e ?_; (case e => ((fail_if_success (with_reducible rfl)); decide))) | (refine' rhs_norm (y' := 4) ?e ?_; (case e => ((fail_if_success (with_reducible rfl)); decide))))
  k_with "m:binaryOp RShift int int" => ((k_here; k_dflt walk_at "norm rhs"))
  k_with "m:binaryOp LShift int int" => ((k_here; first | k_dflt walk_at "norm rhs" | (refine' lshift_int_small ?a ?b (band_small _ 85 ?c) ?_; (case a => decide); (case b => decide); (case c => decide)) | (refine' lshift_int_small ?a ?b (band_small _ 51 ?c) ?_; (case a => decide); (case b => decide); (case c => decide)) | (refine' lshift_int_small ?a ?b (band_small _ 15 ?c) ?_; (case a => decide); (case b => decide); (case c => decide))))
  k_with "m:storeName" => ((k_here; first | refine store_norm (cstep_eq _ 1 85) ?_ | refine store_norm (cstep_eq _ 2 51) ?_ | refine store_norm (cstep_eq _ 4 15) ?_))
  trivial
set_option maxHeartbeats 4000000 in
theorem closed_cl (x l : Int) (tx ty : Tok) (hx : 0 ≤ x ∧ x < 256) (hl : 0 ≤ l ∧ l < 8) :
    Cl w p loose mean mg mb 321 6 60 [.int x tx, .int l ty] [] (RInt [] (closedF x l)) := by
  unfold Cl
  k_fill
  intro rest dp un gd cn cs a ccd cl outer A₀ base h₀ L m s Q E B CD F X N O T hk hd hu hret
  walk_at "cl enter"
  k_steps
  all_goals (walk_at "cl int"; exact closed_way (by first | exact way_t (by assumption) | exact way_f (by assumption)) (by first | exact way_t (by assumption) | exact way_f (by assumption)) (by first | exact way_t (by assumption) | exact way_f (by assumption)))

end
section
theorem rows_a3 : True := by
  k_with_none
  k_with "m:cl enter" => (((refine wpAny_call ?_); k_dflt (refine' code_defV ?k1 ?k2 ?k3 ?k4 ?kO ?k5 ?kA ?kF ?kK ?k6 ?k7 ?k8 ?k9 ?kB ?_ ?c2 ?c3 ?c4 ?c5; (case kA => exact rfl); (case kF => exact rfl); (case kK => assumption); (case k1 => k_asm); (case k2 => k_asm); (case k3 => k_asm); (case k4 => k_asm); (case kO => k_asm); (case k5 => k_asm); (case k6 => k_is); (case k7 => k_is); (case k8 => ktr_room); (case k9 => first | exact BindsTo.of_eq rfl | exact binds_K (by k_in) rfl (by k_is) rfl rfl rfl | (refine' kp_binds ?kx ?ke; (case kx => k_in); (case ke => exact fun _ => rfl))); (case c5 => decide); (case kB => exact locs rfl); (case c2 => exact rfl); (case c3 => exact rfl); (case c4 => exact rfl); k_whole; intro g' L' h' FG' F' N' B' X' T' l1 lim'; (try k_lt l1); (try dsimp only); (try k_fold))))
  k_with "m:cl enterC" => (((refine wpAny_call ?_); k_dflt (refine' code_defCV ?k1 ?k2 ?k3 ?k4 ?kO ?k5 ?kA ?kF ?kK ?k6 ?k7 ?k8 ?k9 ?kB ?kD ?_ ?c2 ?c3 ?c4; (case kA => exact rfl); (case kF => exact rfl); (case kK => assumption); (case k1 => k_asm); (case k2 => k_asm); (case k3 => k_asm); (case k4 => k_asm); (case kO => k_asm); (case k5 => k_asm); (case k6 => k_is); (case k7 => k_is); (case k8 => ktr_room); (case k9 => first | exact BindsTo.of_eq rfl | exact binds_K (by k_in) rfl (by k_is) rfl rfl rfl | (refine' kp_binds ?kx ?ke; (case kx => k_in); (case ke => exact fun _ => rfl))); (case kB => exact rfl); (case kD => decide +kernel); (case c2 => exact rfl); (case c3 => exact rfl); (case c4 => exact rfl); k_whole; intro g' L' h' tk' cells' FG' F' N' Y' B' X' T' l1 lim'; (try k_lt l1); k_cells Y'; (try simp only [List.cons_append, List.nil_append] at N'); (try dsimp only); (try k_fold))))
  k_with "m:cl sub" => (first | exact fun _ h => h | exact List.forall_mem_nil _ | kcj_all)
  k_with "m:cl end" => ((refine' cl_end ?h ?N ?F ?N2 ?_ ?_; (case h => assumption); (case N => assumption); (case F => k_asm); (case N2 => k_asm); rotate_left))
  k_with "m:cl int" => ((refine' cl_end ?h ?N ?F ?N2 ?hn (r_int ?_); (case h => assumption); (case N => assumption); (case F => k_asm); (case N2 => k_asm); (case hn => walk_at "cl sub")))
  k_with "m:cl str" => ((refine' cl_end ?h ?N ?F ?N2 ?hn (r_str ?_); (case h => assumption); (case N => assumption); (case F => k_asm); (case N2 => k_asm); (case hn => walk_at "cl sub")))
  k_with "m:cl bool" => ((refine' cl_end ?h ?N ?F ?N2 ?hn (r_bool ?_); (case h => assumption); (case N => assumption); (case F => k_asm); (case N2 => k_asm); (case hn => walk_at "cl sub")))
  k_with "m:call builtin:list.append" => ((k_here; (with_reducible show wpAny _ _ (call (Value.builtin _) [Value.ref _, _]) _ _ _); k_dflt (refine' append_K ?k1 ?k2 ?k3 ?_ ?z; (case k1 => k_asm); (case k2 => k_asm); (case k3 => k_upd); (case z => exact Nat.le_of_ble_eq_true rfl); k_whole); intro h' F' N'; (try k_sweep)))
  k_with "m:call ref" => ((k_here; k_dflt (k_extra "call ref")))
  k_with "m:cl off1" => (first | exact List.forall_mem_nil _ | exact OwnOff.ne (by assumption) (by simp) | (refine List.forall_mem_cons.mpr ⟨?_, ?_⟩ <;> walk_at "cl off1") | k_ne)
  k_with "m:cl off" => ((unfold Off; walk_at "cl off1"))
  k_with "m:cl mem" => (first | exact List.forall_mem_nil _ | (refine List.forall_mem_cons.mpr ⟨by k_mem, ?_⟩; walk_at "cl mem") | (intro p9 h9; kst_mem))
  k_with "m:cl all" => (((try simp only [List.cons_append, List.nil_append, List.append_nil]); walk_at "cl mem"))
  k_with "m:execs cons" => ((k_here; (with_reducible refine tok_add ?_); intro tk; (try dsimp only); (try k_fold)))
  k_with "m:storeName" => ((k_here; first | ((with_reducible refine tok_sp ?_); intro t9) | ((with_reducible refine tok_st ?_); intro t9)))
  trivial
theorem len_one (c : Nat) : (Str.mk #[c]).length ≤ 100 := by show 1 ≤ 100; decide


theorem rows_a4 : True := by
  k_with_none
  k_with "m:cl enter" => (((refine wpAny_call ?_); k_dflt (refine' code_defV ?k1 ?k2 ?k3 ?k4 ?kO ?k5 ?kA ?kF ?kK ?k6 ?k7 ?k8 ?k9 ?kB ?_ ?c2 ?c3 ?c4 ?c5; (case kA => exact rfl); (case kF => exact rfl); (case kK => assumption); (case k1 => k_asm); (case k2 => k_asm); (case k3 => k_asm); (case k4 => k_asm); (case kO => k_asm); (case k5 => k_asm); (case k6 => k_is); (case k7 => k_is); (case k8 => ktr_room); (case k9 => first | exact BindsTo.of_eq rfl | exact binds_K (by k_in) rfl (by k_is) rfl rfl rfl | (refine' kp_binds ?kx ?ke; (case kx => k_in); (case ke => exact fun _ => rfl))); (case c5 => decide); (case kB => exact locs rfl); (case c2 => exact rfl); (case c3 => exact rfl); (case c4 => exact rfl); k_whole; intro g' L' h' FG' F' N' B' X' T' l1 lim'; (try k_lt l1); (try dsimp only); (try k_fold))))
  k_with "m:cl enterC" => (((refine wpAny_call ?_); k_dflt (refine' code_defCV ?k1 ?k2 ?k3 ?k4 ?kO ?k5 ?kA ?kF ?kK ?k6 ?k7 ?k8 ?k9 ?kB ?kD ?_ ?c2 ?c3 ?c4; (case kA => exact rfl); (case kF => exact rfl); (case kK => assumption); (case k1 => k_asm); (case k2 => k_asm); (case k3 => k_asm); (case k4 => k_asm); (case kO => k_asm); (case k5 => k_asm); (case k6 => k_is); (case k7 => k_is); (case k8 => ktr_room); (case k9 => first | exact BindsTo.of_eq rfl | exact binds_K (by k_in) rfl (by k_is) rfl rfl rfl | (refine' kp_binds ?kx ?ke; (case kx => k_in); (case ke => exact fun _ => rfl))); (case kB => exact rfl); (case kD => decide +kernel); (case c2 => exact rfl); (case c3 => exact rfl); (case c4 => exact rfl); k_whole; intro g' L' h' tk' cells' FG' F' N' Y' B' X' T' l1 lim'; (try k_lt l1); k_cells Y'; (try simp only [List.cons_append, List.nil_append] at N'); (try dsimp only); (try k_fold))))
  k_with "m:cl sub" => (first | exact fun _ h => h | exact List.forall_mem_nil _ | kcj_all)
  k_with "m:cl end" => ((refine' cl_end ?h ?N ?F ?N2 ?_ ?_; (case h => assumption); (case N => assumption); (case F => k_asm); (case N2 => k_asm); rotate_left))
  k_with "m:cl int" => ((refine' cl_end ?h ?N ?F ?N2 ?hn (r_int ?_); (case h => assumption); (case N => assumption); (case F => k_asm); (case N2 => k_asm); (case hn => walk_at "cl sub")))
  k_with "m:cl str" => ((refine' cl_end ?h ?N ?F ?N2 ?hn (r_str ?_); (case h => assumption); (case N => assumption); (case F => k_asm); (case N2 => k_asm); (case hn => walk_at "cl sub")))
  k_with "m:cl bool" => ((refine' cl_end ?h ?N ?F ?N2 ?hn (r_bool ?_); (case h => assumption); (case N => assumption); (case F => k_asm); (case N2 => k_asm); (case hn => walk_at "cl sub")))
  k_with "m:call builtin:list.append" => ((k_here; (with_reducible show wpAny _ _ (call (Value.builtin _) [Value.ref _, _]) _ _ _); k_dflt (refine' append_K ?k1 ?k2 ?k3 ?_ ?z; (case k1 => k_asm); (case k2 => k_asm); (case k3 => k_upd); (case z => exact Nat.le_of_ble_eq_true rfl); k_whole); intro h' F' N'; (try k_sweep)))
  k_with "m:call ref" => ((k_here; k_dflt (k_extra "call ref")))
  k_with "m:cl off1" => (first | exact List.forall_mem_nil _ | exact OwnOff.ne (by assumption) (by simp) | (refine List.forall_mem_cons.mpr ⟨?_, ?_⟩ <;> walk_at "cl off1") | k_ne)
  k_with "m:cl off" => ((unfold Off; walk_at "cl off1"))
  k_with "m:cl mem" => (first | exact List.forall_mem_nil _ | (refine List.forall_mem_cons.mpr ⟨by k_mem, ?_⟩; walk_at "cl mem") | (intro p9 h9; kst_mem))
  k_with "m:cl all" => (((try simp only [List.cons_append, List.nil_append, List.append_nil]); walk_at "cl mem"))
  k_with "m:execs cons" => ((k_here; (with_reducible refine tok_add ?_); intro tk; (try dsimp only); (try k_fold)))
  k_with "m:storeName" => ((k_here; first | ((with_reducible refine tok_sp ?_); intro t9) | ((with_reducible refine tok_st ?_); intro t9)))
  k_with "m:call ref" => ((k_here; k_dflt (refine' cl_use0 (subst_cl _ _ _ _ ?hx ?hy) ?k1 ?kC ?k2 ?k3 ?k4 ?k5 ?kK ?kd ?ku ?_; (case k1 => k_asm); (case kC => assumption); (case k2 => k_asm); (case k3 => k_asm); (case k4 => k_asm); (case k5 => k_asm); (case kK => first | exact rfl | assumption); (case hx => exact len_one _); (case hy => exact len_one _); (case kd => ktr_room); (case ku => ktr_units)); intro lim9 v9 n9 h9 tk9 lt9 R9 F9 N9; (obtain ⟨e9, t9, e9'⟩ := R9); subst e9; subst e9'; (try dsimp only [List.nil_append] at N9); (try dsimp only); (try k_fold)))
  trivial
set_option maxHeartbeats 4000000 in
theorem apart_cl (a0 a1 a2 b0 b1 b2 : Nat) (tx ty : Tok) :
    Cl w p loose mean mg mb 274 6 60 [.str ⟨#[a0, a1, a2]⟩ tx, .str ⟨#[b0, b1, b2]⟩ ty] [] (RInt [] (subst ⟨#[a0]⟩ ⟨#[b0]⟩ + subst ⟨#[a1]⟩ ⟨#[b1]⟩ + subst ⟨#[a2]⟩ ⟨#[b2]⟩)) := by
  unfold Cl
  k_fill
  intro rest dp un gd cn cs a ccd cl outer A₀ base h₀ L m s Q E B CD F X N O T hk hd hu hret
  walk_at "cl enterC"
  k_steps
  · rename_i h1 _ _ _ _; exfalso; have e3 : (Str.mk #[a0, a1, a2]).length = 3 := rfl; simp only [e3] at *; omega
  · rename_i h1 _ _ _ _; exfalso; have e3 : (Str.mk #[b0, b1, b2]).length = 3 := rfl; simp only [e3] at *; omega
  · walk_at "cl int"
    show subst ⟨#[a0]⟩ ⟨#[b0]⟩ + (subst ⟨#[a1]⟩ ⟨#[b1]⟩ + (subst ⟨#[a2]⟩ ⟨#[b2]⟩ + 0)) = _
    omega

end
section
theorem rows_a5 : True := by
  k_with_none
  k_with "m:cl enter" => (((refine wpAny_call ?_); k_dflt (refine' code_defV ?k1 ?k2 ?k3 ?k4 ?kO ?k5 ?kA ?kF ?kK ?k6 ?k7 ?k8 ?k9 ?kB ?_ ?c2 ?c3 ?c4 ?c5; (case kA => exact rfl); (case kF => exact rfl); (case kK => assumption); (case k1 => k_asm); (case k2 => k_asm); (case k3 => k_asm); (case k4 => k_asm); (case kO => k_asm); (case k5 => k_asm); (case k6 => k_is); (case k7 => k_is); (case k8 => ktr_room); (case k9 => first | exact BindsTo.of_eq rfl | exact binds_K (by k_in) rfl (by k_is) rfl rfl rfl | (refine' kp_binds ?kx ?ke; (case kx => k_in); (case ke => exact fun _ => rfl))); (case c5 => decide); (case kB => exact locs rfl); (case c2 => exact rfl); (case c3 => exact rfl); (case c4 => exact rfl); k_whole; intro g' L' h' FG' F' N' B' X' T' l1 lim'; (try k_lt l1); (try dsimp only); (try k_fold))))
  k_with "m:cl enterC" => (((refine wpAny_call ?_); k_dflt (refine' code_defCV ?k1 ?k2 ?k3 ?k4 ?kO ?k5 ?kA ?kF ?kK ?k6 ?k7 ?k8 ?k9 ?kB ?kD ?_ ?c2 ?c3 ?c4; (case kA => exact rfl); (case kF => exact rfl); (case kK => assumption); (case k1 => k_asm); (case k2 => k_asm); (case k3 => k_asm); (case k4 => k_asm); (case kO => k_asm); (case k5 => k_asm); (case k6 => k_is); (case k7 => k_is); (case k8 => ktr_room); (case k9 => first | exact BindsTo.of_eq rfl | exact binds_K (by k_in) rfl (by k_is) rfl rfl rfl | (refine' kp_binds ?kx ?ke; (case kx => k_in); (case ke => exact fun _ => rfl))); (case kB => exact rfl); (case kD => decide +kernel); (case c2 => exact rfl); (case c3 => exact rfl); (case c4 => exact rfl); k_whole; intro g' L' h' tk' cells' FG' F' N' Y' B' X' T' l1 lim'; (try k_lt l1); k_cells Y'; (try simp only [List.cons_append, List.nil_append] at N'); (try dsimp only); (try k_fold))))
  k_with "m:cl sub" => (first | exact fun _ h => h | exact List.forall_mem_nil _ | kcj_all)
  k_with "m:cl end" => ((refine' cl_end ?h ?N ?F ?N2 ?_ ?_; (case h => assumption); (case N => assumption); (case F => k_asm); (case N2 => k_asm); rotate_left))
  k_with "m:cl int" => ((refine' cl_end ?h ?N ?F ?N2 ?hn (r_int ?_); (case h => assumption); (case N => assumption); (case F => k_asm); (case N2 => k_asm); (case hn => walk_at "cl sub")))
  k_with "m:cl str" => ((refine' cl_end ?h ?N ?F ?N2 ?hn (r_str ?_); (case h => assumption); (case N => assumption); (case F => k_asm); (case N2 => k_asm); (case hn => walk_at "cl sub")))
  k_with "m:cl bool" => ((refine' cl_end ?h ?N ?F ?N2 ?hn (r_bool ?_); (case h => assumption); (case N => assumption); (case F => k_asm); (case N2 => k_asm); (case hn => walk_at "cl sub")))
  k_with "m:call builtin:list.append" => ((k_here; (with_reducible show wpAny _ _ (call (Value.builtin _) [Value.ref _, _]) _ _ _); k_dflt (refine' append_K ?k1 ?k2 ?k3 ?_ ?z; (case k1 => k_asm); (case k2 => k_asm); (case k3 => k_upd); (case z => exact Nat.le_of_ble_eq_true rfl); k_whole); intro h' F' N'; (try k_sweep)))
  k_with "m:call ref" => ((k_here; k_dflt (k_extra "call ref")))
  k_with "m:cl off1" => (first | exact List.forall_mem_nil _ | exact OwnOff.ne (by assumption) (by simp) | (refine List.forall_mem_cons.mpr ⟨?_, ?_⟩ <;> walk_at "cl off1") | k_ne)
  k_with "m:cl off" => ((unfold Off; walk_at "cl off1"))
  k_with "m:cl mem" => (first | exact List.forall_mem_nil _ | (refine List.forall_mem_cons.mpr ⟨by k_mem, ?_⟩; walk_at "cl mem") | (intro p9 h9; kst_mem))
  k_with "m:cl all" => (((try simp only [List.cons_append, List.nil_append, List.append_nil]); walk_at "cl mem"))
  k_with "m:execs cons" => ((k_here; (with_reducible refine tok_add ?_); intro tk; (try dsimp only); (try k_fold)))
  k_with "m:storeName" => ((k_here; first | ((with_reducible refine tok_sp ?_); intro t9) | ((with_reducible refine tok_st ?_); intro t9)))
  trivial
theorem item30 {prog : Program} {w : World} {A : Around} {E : Value → Shared → Prop} {s : Shared} {value slice : PySem.Expr} {a b c : Nat} {t u : Tok} {Q : Value → Shared → Prop} (h : Q (.str ⟨#[a]⟩ s.toks) { s with toks := s.toks + 1 })
    (hs : subscripted slice false (.str ⟨#[a, b, c]⟩ t) (.int 0 u) = operate [.str ⟨#[a, b, c]⟩ t, .int 0 u] (getItem (.str ⟨#[a, b, c]⟩ t) (.int 0 u)) := by with_unfolding_all rfl)
    (ht : ∀ r, letTemporaryGo value (.str ⟨#[a, b, c]⟩ t) r = pure () := by intro _; with_unfolding_all rfl) :
    wpAny (model prog w) A (subscriptTail value slice (.str ⟨#[a, b, c]⟩ t) (.int 0 u)) Q E s :=
  KXi.item (n := 3) rfl (by decide) (by decide) (by decide) (fun _ => h) hs ht
theorem slice_tail (a b c : Nat) : Txt.slice ⟨#[a, b, c]⟩ (some 1) none = ⟨#[b, c]⟩ := slice_from_eq (b := 3) (by decide) (by show (1 : Int) ≤ 3; decide) rfl
theorem iter_tail {prog : Program} {w : World} {A : Around} {E : Value → Shared → Prop} {s : Shared} {env : Env} {h₀ : Heap} {x : Str} {body : List Stmt} {Q : Flow → Shared → Prop} {a b c : Nat} {t : Tok} {m₀ : Str → Option Value} {news : List (Addr × Obj)} (hh : A.handled = none) (F : Fr h₀ env.locals s.heap m₀) (N : News h₀ env.locals s.heap news)
    (rest₀ : ∀ I : Addr, (∀ p ∈ news, p.1 < I) → StrRest prog w A E h₀ env x body Q s I [⟨#[b]⟩, ⟨#[c]⟩] m₀ news) :
    wpAny (model prog w) A (pyIter (.str (Txt.slice ⟨#[a, b, c]⟩ (some 1) none) t)) (fun it s₂ => LoopAtV prog w A h₀ env x body Q E it s₂) E s :=
  iter_strUnr hh F N (by rw [slice_tail]; rfl) rest₀
theorem len_low (c : Nat) : (Txt.lower (Str.mk #[c])).length ≤ 100 := by
  have : (Txt.lower (Str.mk #[c])).length ≤ 3 * (Str.mk #[c]).length := len_lower _
  have e : (Str.mk #[c]).length = 1 := rfl
  omega
theorem low1 {prog : Program} {w : World} {A : Around} {E : Value → Shared → Prop} {s : Shared} {c : Nat} {t : Tok} {Q : Value → Shared → Prop} (h : Q (.str (Txt.lower ⟨#[c]⟩) s.toks) { s with toks := s.toks + 1 }) : wpAny (model prog w) A (call (.builtin "str.lower") [.str ⟨#[c]⟩ t]) Q E s :=
  SCL.lower (Nat.le_trans (len_one c) (by decide)) fun _ => h

noncomputable def dbl (a c : Nat) : List Str := if subst ⟨#[c]⟩ (Txt.lower ⟨#[c]⟩) ≠ subst ⟨#[a]⟩ (Txt.lower ⟨#[a]⟩) then [⟨#[c]⟩, ⟨#[c]⟩] else [⟨#[c]⟩]
theorem rows_a6 : True := by
  k_with_none
  k_with "m:cl enter" => (((refine wpAny_call ?_); k_dflt (refine' code_defV ?k1 ?k2 ?k3 ?k4 ?kO ?k5 ?kA ?kF ?kK ?k6 ?k7 ?k8 ?k9 ?kB ?_ ?c2 ?c3 ?c4 ?c5; (case kA => exact rfl); (case kF => exact rfl); (case kK => assumption); (case k1 => k_asm); (case k2 => k_asm); (case k3 => k_asm); (case k4 => k_asm); (case kO => k_asm); (case k5 => k_asm); (case k6 => k_is); (case k7 => k_is); (case k8 => ktr_room); (case k9 => first | exact BindsTo.of_eq rfl | exact binds_K (by k_in) rfl (by k_is) rfl rfl rfl | (refine' kp_binds ?kx ?ke; (case kx => k_in); (case ke => exact fun _ => rfl))); (case c5 => decide); (case kB => exact locs rfl); (case c2 => exact rfl); (case c3 => exact rfl); (case c4 => exact rfl); k_whole; intro g' L' h' FG' F' N' B' X' T' l1 lim'; (try k_lt l1); (try dsimp only); (try k_fold))))
  k_with "m:cl enterC" => (((refine wpAny_call ?_); k_dflt (refine' code_defCV ?k1 ?k2 ?k3 ?k4 ?kO ?k5 ?kA ?kF ?kK ?k6 ?k7 ?k8 ?k9 ?kB ?kD ?_ ?c2 ?c3 ?c4; (case kA => exact rfl); (case kF => exact rfl); (case kK => assumption); (case k1 => k_asm); (case k2 => k_asm); (case k3 => k_asm); (case k4 => k_asm); (case kO => k_asm); (case k5 => k_asm); (case k6 => k_is); (case k7 => k_is); (case k8 => ktr_room); (case k9 => first | exact BindsTo.of_eq rfl | exact binds_K (by k_in) rfl (by k_is) rfl rfl rfl | (refine' kp_binds ?kx ?ke; (case kx => k_in); (case ke => exact fun _ => rfl))); (case kB => exact rfl); (case kD => decide +kernel); (case c2 => exact rfl); (case c3 => exact rfl); (case c4 => exact rfl); k_whole; intro g' L' h' tk' cells' FG' F' N' Y' B' X' T' l1 lim'; (try k_lt l1); k_cells Y'; (try simp only [List.cons_append, List.nil_append] at N'); (try dsimp only); (try k_fold))))
  k_with "m:cl sub" => (first | exact fun _ h => h | exact List.forall_mem_nil _ | kcj_all)
  k_with "m:cl end" => ((refine' cl_end ?h ?N ?F ?N2 ?_ ?_; (case h => assumption); (case N => assumption); (case F => k_asm); (case N2 => k_asm); rotate_left))
  k_with "m:cl int" => ((refine' cl_end ?h ?N ?F ?N2 ?hn (r_int ?_); (case h => assumption); (case N => assumption); (case F => k_asm); (case N2 => k_asm); (case hn => walk_at "cl sub")))
  k_with "m:cl str" => ((refine' cl_end ?h ?N ?F ?N2 ?hn (r_str ?_); (case h => assumption); (case N => assumption); (case F => k_asm); (case N2 => k_asm); (case hn => walk_at "cl sub")))
  k_with "m:cl bool" => ((refine' cl_end ?h ?N ?F ?N2 ?hn (r_bool ?_); (case h => assumption); (case N => assumption); (case F => k_asm); (case N2 => k_asm); (case hn => walk_at "cl sub")))
  k_with "m:call builtin:list.append" => ((k_here; (with_reducible show wpAny _ _ (call (Value.builtin _) [Value.ref _, _]) _ _ _); k_dflt (refine' append_K ?k1 ?k2 ?k3 ?_ ?z; (case k1 => k_asm); (case k2 => k_asm); (case k3 => k_upd); (case z => exact Nat.le_of_ble_eq_true rfl); k_whole); intro h' F' N'; (try k_sweep)))
  k_with "m:call ref" => ((k_here; k_dflt (k_extra "call ref")))
  k_with "m:cl off1" => (first | exact List.forall_mem_nil _ | exact OwnOff.ne (by assumption) (by simp) | (refine List.forall_mem_cons.mpr ⟨?_, ?_⟩ <;> walk_at "cl off1") | k_ne)
  k_with "m:cl off" => ((unfold Off; walk_at "cl off1"))
  k_with "m:cl mem" => (first | exact List.forall_mem_nil _ | (refine List.forall_mem_cons.mpr ⟨by k_mem, ?_⟩; walk_at "cl mem") | (intro p9 h9; kst_mem))
  k_with "m:cl all" => (((try simp only [List.cons_append, List.nil_append, List.append_nil]); walk_at "cl mem"))
  k_with "m:execs cons" => ((k_here; (with_reducible refine tok_add ?_); intro tk; (try dsimp only); (try k_fold)))
  k_with "m:storeName" => ((k_here; first | ((with_reducible refine tok_sp ?_); intro t9) | ((with_reducible refine tok_st ?_); intro t9)))
  k_with "m:call builtin:str.join" => ((k_here; k_dflt (refine join_listW (by is_list) (by kct_strs) (by decide +kernel) (Nat.le_of_ble_eq_true rfl) ?_; intro _ _)))
  k_with "m:call builtin:str.lower" => ((k_here; k_dflt (refine low1 ?_)))
  k_with "m:exec For Name Subscript cons nil" => ((k_here; (rename Fr _ _ _ _ => lF'); (with_unfolding_all refine' For_invVF lF' ?k1 ?k2 ?_; (case k1 => exact rfl); (case k2 => exact rfl); k_whole)))
  k_with "m:pyIter str" => ((k_here; (rename Fr _ _ _ _ => lF'); (rename News _ _ _ _ => lN'); (with_unfolding_all refine iter_tail (by rfl) lF' lN' ?_); clear lF' lN'; intro i' l1; (try k_lt l1)))
  k_with "m:StrRest" => (first | (refine StrRest.succ (fun u' it' h' tk' F' N' => ?_)) | (refine StrRest.zero (fun h' tk' F' N' => ?_)))
  k_with "m:subscriptTail Name Constant str int" => ((k_here; k_dflt (refine' item30 ?_; k_whole)))
  k_with "m:call ref" => ((k_here; k_dflt (refine' cl_use0 (subst_cl _ _ _ _ ?hx ?hy) ?k1 ?kC ?k2 ?k3 ?k4 ?k5 ?kK ?kd ?ku ?_; (case k1 => k_asm); (case kC => assumption); (case k2 => k_asm); (case k3 => k_asm); (case k4 => k_asm); (case k5 => k_asm); (case kK => first | exact rfl | assumption); (case hx => exact len_one _); (case hy => exact len_low _); (case kd => ktr_room); (case ku => ktr_units)); intro lim9 v9 n9 h9 tk9 lt9 R9 F9 N9; (obtain ⟨e9, t9, e9'⟩ := R9); subst e9; subst e9'; (try dsimp only [List.nil_append] at N9); (try dsimp only); (try k_fold)))
  trivial
theorem dbl_t {a c : Nat} (h : subst ⟨#[c]⟩ (Txt.lower ⟨#[c]⟩) ≠ subst ⟨#[a]⟩ (Txt.lower ⟨#[a]⟩)) : dbl a c = [⟨#[c]⟩, ⟨#[c]⟩] := if_pos h
theorem dbl_f {a c : Nat} (h : subst ⟨#[c]⟩ (Txt.lower ⟨#[c]⟩) = subst ⟨#[a]⟩ (Txt.lower ⟨#[a]⟩)) : dbl a c = [⟨#[c]⟩] := if_neg (fun q => q h)
/-- the name that a word and its opposite share but for the letters' size -/
noncomputable def nameF (a b c : Nat) : Str := Txt.join "" (⟨#[a]⟩ :: (dbl a b ++ dbl a c))
theorem nameF_of {a b c : Nat} {l l' : List Str} (h : dbl a b = l) (h' : dbl a c = l') : Txt.join "" (⟨#[a]⟩ :: (l ++ l')) = nameF a b c := by subst h; subst h'; rfl
set_option maxHeartbeats 4000000 in
theorem name_cl (a0 a1 a2 : Nat) (tx : Tok) :
    Cl w p loose mean mg mb 309 6 60 [.str ⟨#[a0, a1, a2]⟩ tx] [] (RStr [] (nameF a0 a1 a2)) := by
  unfold Cl
  k_fill
  intro rest dp un gd cn cs a ccd cl outer A₀ base h₀ L m s Q E B CD F X N O T hk hd hu hret
  walk_at "cl enter"
  k_steps
  all_goals (walk_at "cl str"; exact nameF_of (a := a0) (b := a1) (c := a2) (by first | exact dbl_t (by assumption) | exact dbl_f (by assumption)) (by first | exact dbl_t (by assumption) | exact dbl_f (by assumption)))

end
section
noncomputable def ltS (x y : Str) : Bool := decide (x.cps.toList < y.cps.toList)
/-- bisect_right's own search, turn by turn -/
noncomputable def bisR (xs : List Str) (x : Str) : Nat → Int → Int → Int
  | 0, lo, _ => lo
  | f + 1, lo, hi => if lo < hi then (if ltS x (xs.getD ((lo + hi).fdiv 2).toNat default) then bisR xs x f lo ((lo + hi).fdiv 2) else bisR xs x f ((lo + hi).fdiv 2 + 1) hi) else lo
noncomputable def BR (xs : List Str) (x : Str) (r lo hi : Int) : Prop := ∃ f : Nat, hi - lo ≤ (f : Int) ∧ bisR xs x f lo hi = r
theorem rows_a7 : True := by
  k_with_none
  k_with "m:cl enter" => (((refine wpAny_call ?_); k_dflt (refine' code_defV ?k1 ?k2 ?k3 ?k4 ?kO ?k5 ?kA ?kF ?kK ?k6 ?k7 ?k8 ?k9 ?kB ?_ ?c2 ?c3 ?c4 ?c5; (case kA => exact rfl); (case kF => exact rfl); (case kK => assumption); (case k1 => k_asm); (case k2 => k_asm); (case k3 => k_asm); (case k4 => k_asm); (case kO => k_asm); (case k5 => k_asm); (case k6 => k_is); (case k7 => k_is); (case k8 => ktr_room); (case k9 => first | exact BindsTo.of_eq rfl | exact binds_K (by k_in) rfl (by k_is) rfl rfl rfl | (refine' kp_binds ?kx ?ke; (case kx => k_in); (case ke => exact fun _ => rfl))); (case c5 => decide); (case kB => exact locs rfl); (case c2 => exact rfl); (case c3 => exact rfl); (case c4 => exact rfl); k_whole; intro g' L' h' FG' F' N' B' X' T' l1 lim'; (try k_lt l1); (try dsimp only); (try k_fold))))
  k_with "m:cl enterC" => (((refine wpAny_call ?_); k_dflt (refine' code_defCV ?k1 ?k2 ?k3 ?k4 ?kO ?k5 ?kA ?kF ?kK ?k6 ?k7 ?k8 ?k9 ?kB ?kD ?_ ?c2 ?c3 ?c4; (case kA => exact rfl); (case kF => exact rfl); (case kK => assumption); (case k1 => k_asm); (case k2 => k_asm); (case k3 => k_asm); (case k4 => k_asm); (case kO => k_asm); (case k5 => k_asm); (case k6 => k_is); (case k7 => k_is); (case k8 => ktr_room); (case k9 => first | exact BindsTo.of_eq rfl | exact binds_K (by k_in) rfl (by k_is) rfl rfl rfl | (refine' kp_binds ?kx ?ke; (case kx => k_in); (case ke => exact fun _ => rfl))); (case kB => exact rfl); (case kD => decide +kernel); (case c2 => exact rfl); (case c3 => exact rfl); (case c4 => exact rfl); k_whole; intro g' L' h' tk' cells' FG' F' N' Y' B' X' T' l1 lim'; (try k_lt l1); k_cells Y'; (try simp only [List.cons_append, List.nil_append] at N'); (try dsimp only); (try k_fold))))
  k_with "m:cl sub" => (first | exact fun _ h => h | exact List.forall_mem_nil _ | kcj_all)
  k_with "m:cl end" => ((refine' cl_end ?h ?N ?F ?N2 ?_ ?_; (case h => assumption); (case N => assumption); (case F => k_asm); (case N2 => k_asm); rotate_left))
  k_with "m:cl int" => ((refine' cl_end ?h ?N ?F ?N2 ?hn (r_int ?_); (case h => assumption); (case N => assumption); (case F => k_asm); (case N2 => k_asm); (case hn => walk_at "cl sub")))
  k_with "m:cl str" => ((refine' cl_end ?h ?N ?F ?N2 ?hn (r_str ?_); (case h => assumption); (case N => assumption); (case F => k_asm); (case N2 => k_asm); (case hn => walk_at "cl sub")))
  k_with "m:cl bool" => ((refine' cl_end ?h ?N ?F ?N2 ?hn (r_bool ?_); (case h => assumption); (case N => assumption); (case F => k_asm); (case N2 => k_asm); (case hn => walk_at "cl sub")))
  k_with "m:call builtin:list.append" => ((k_here; (with_reducible show wpAny _ _ (call (Value.builtin _) [Value.ref _, _]) _ _ _); k_dflt (refine' append_K ?k1 ?k2 ?k3 ?_ ?z; (case k1 => k_asm); (case k2 => k_asm); (case k3 => k_upd); (case z => exact Nat.le_of_ble_eq_true rfl); k_whole); intro h' F' N'; (try k_sweep)))
  k_with "m:call ref" => ((k_here; k_dflt (k_extra "call ref")))
  k_with "m:cl off1" => (first | exact List.forall_mem_nil _ | exact OwnOff.ne (by assumption) (by simp) | (refine List.forall_mem_cons.mpr ⟨?_, ?_⟩ <;> walk_at "cl off1") | k_ne)
  k_with "m:cl off" => ((unfold Off; walk_at "cl off1"))
  k_with "m:cl mem" => (first | exact List.forall_mem_nil _ | (refine List.forall_mem_cons.mpr ⟨by k_mem, ?_⟩; walk_at "cl mem") | (intro p9 h9; kst_mem))
  k_with "m:cl all" => (((try simp only [List.cons_append, List.nil_append, List.append_nil]); walk_at "cl mem"))
  k_with "m:execs cons" => ((k_here; (with_reducible refine tok_add ?_); intro tk; (try dsimp only); (try k_fold)))
  k_with "m:storeName" => ((k_here; first | ((with_reducible refine tok_sp ?_); intro t9) | ((with_reducible refine tok_st ?_); intro t9)))
  trivial
theorem BR.start (xs : List Str) (x : Str) : BR xs x (bisR xs x xs.length 0 xs.length) 0 xs.length := ⟨xs.length, by omega, rfl⟩
theorem mid_b {a b : Int} (h0 : 0 ≤ a) (h1 : a < b) : 0 ≤ (a + b).fdiv 2 ∧ a ≤ (a + b).fdiv 2 ∧ (a + b).fdiv 2 < b := by
  rw [Int.fdiv_eq_ediv_of_nonneg _ (by decide)]; omega
theorem BR.left {xs : List Str} {x : Str} {r lo hi : Int} (h : BR xs x r lo hi) (h0 : 0 ≤ lo) (h1 : lo < hi) (t : decide (x.cps.toList < (xs.getD ((lo + hi).fdiv 2).toNat default).cps.toList) = true) : BR xs x r lo ((lo + hi).fdiv 2) := by
  obtain ⟨f, hf, e⟩ := h
  have q := mid_b h0 h1
  cases f with
  | zero => exact absurd hf (by omega)
  | succ f =>
    refine ⟨f, by omega, ?_⟩
    have t' : ltS x (xs.getD ((lo + hi).fdiv 2).toNat default) = true := t
    rw [bisR, if_pos h1, if_pos t'] at e
    exact e
theorem BR.right {xs : List Str} {x : Str} {r lo hi : Int} (h : BR xs x r lo hi) (h0 : 0 ≤ lo) (h1 : lo < hi) (t : decide (x.cps.toList < (xs.getD ((lo + hi).fdiv 2).toNat default).cps.toList) = false) : BR xs x r ((lo + hi).fdiv 2 + 1) hi := by
  obtain ⟨f, hf, e⟩ := h
  have q := mid_b h0 h1
  cases f with
  | zero => exact absurd hf (by omega)
  | succ f =>
    refine ⟨f, by omega, ?_⟩
    have t' : ¬ ltS x (xs.getD ((lo + hi).fdiv 2).toNat default) = true := by unfold ltS; rw [t]; exact Bool.false_ne_true
    rw [bisR, if_pos h1, if_neg t'] at e
    exact e
theorem BR.done {xs : List Str} {x : Str} {r lo hi : Int} (h : BR xs x r lo hi) (h1 : ¬ lo < hi) : lo = r := by
  obtain ⟨f, _, e⟩ := h
  cases f with
  | zero => exact e
  | succ f => rw [bisR, if_neg h1] at e; exact e
theorem strs_at : ∀ {vs : List Value} {xs : List Str}, StrsAre vs xs → ∀ {i : Nat}, i < xs.length → ∃ t, vs[i]? = some (.str (xs.getD i default) t)
  | _, _, .nil, _, h => absurd h (Nat.not_lt_zero _)
  | _, _, .cons x t _, 0, _ => ⟨t, rfl⟩
  | _, _, .cons x t r, i + 1, h => by
    obtain ⟨t', e⟩ := strs_at r (i := i) (by simpa using h)
    exact ⟨t', by simpa using e⟩
theorem item_strs {prog : Program} {w : World} {A : Around} {E : Value → Shared → Prop} {s : Shared} {value slice : PySem.Expr} {l : Addr} {vs : List Value} {xs : List Str} {k : Int} {u : Tok} {Q : Value → Shared → Prop}
    (hl : s.heap.IsList l vs.toArray) (hv : StrsAre vs xs) (h0 : 0 ≤ k) (h1 : k < (xs.length : Int)) (hb : xs.length ≤ 100) (h : ∀ t, Q (.str (xs.getD k.toNat default) t) s)
    (hs : subscripted slice false (.ref l) (.int k u) = operate [.ref l, .int k u] (getItem (.ref l) (.int k u)) := by with_unfolding_all rfl) :
    wpAny (model prog w) A (subscriptTail value slice (.ref l) (.int k u)) Q E s := by
  obtain ⟨t, e⟩ := strs_at hv (i := k.toNat) (by omega)
  exact tail_any hl.typeIs slot_list_getitem.lookup (wpAny_getItem_list hl h0 (by omega) (by simpa using e) (h t)) hs
theorem item_mid {prog : Program} {w : World} {A : Around} {E : Value → Shared → Prop} {s : Shared} {value slice : PySem.Expr} {l : Addr} {vs : List Value} {xs : List Str} {a b : Int} {u : Tok} {Q : Value → Shared → Prop}
    (hl : s.heap.IsList l vs.toArray) (hv : StrsAre vs xs) (h0 : 0 ≤ a) (h1 : a < b) (h2 : b ≤ (xs.length : Int)) (hb : xs.length ≤ 100) (h : ∀ t, 0 ≤ (a + b).fdiv 2 → a ≤ (a + b).fdiv 2 → (a + b).fdiv 2 < b → Q (.str (xs.getD ((a + b).fdiv 2).toNat default) t) s)
    (hs : subscripted slice false (.ref l) (.int ((a + b).fdiv 2) u) = operate [.ref l, .int ((a + b).fdiv 2) u] (getItem (.ref l) (.int ((a + b).fdiv 2) u)) := by with_unfolding_all rfl) :
    wpAny (model prog w) A (subscriptTail value slice (.ref l) (.int ((a + b).fdiv 2) u)) Q E s := by
  have q := mid_b h0 h1
  exact item_strs hl hv q.1 (by omega) hb (fun t => h t q.1 q.2.1 q.2.2) hs
theorem rows_a8 : True := by
  k_with_none
  k_with "m:cl enter" => (((refine wpAny_call ?_); k_dflt (refine' code_defV ?k1 ?k2 ?k3 ?k4 ?kO ?k5 ?kA ?kF ?kK ?k6 ?k7 ?k8 ?k9 ?kB ?_ ?c2 ?c3 ?c4 ?c5; (case kA => exact rfl); (case kF => exact rfl); (case kK => assumption); (case k1 => k_asm); (case k2 => k_asm); (case k3 => k_asm); (case k4 => k_asm); (case kO => k_asm); (case k5 => k_asm); (case k6 => k_is); (case k7 => k_is); (case k8 => ktr_room); (case k9 => first | exact BindsTo.of_eq rfl | exact binds_K (by k_in) rfl (by k_is) rfl rfl rfl | (refine' kp_binds ?kx ?ke; (case kx => k_in); (case ke => exact fun _ => rfl))); (case c5 => decide); (case kB => exact locs rfl); (case c2 => exact rfl); (case c3 => exact rfl); (case c4 => exact rfl); k_whole; intro g' L' h' FG' F' N' B' X' T' l1 lim'; (try k_lt l1); (try dsimp only); (try k_fold))))
  k_with "m:cl enterC" => (((refine wpAny_call ?_); k_dflt (refine' code_defCV ?k1 ?k2 ?k3 ?k4 ?kO ?k5 ?kA ?kF ?kK ?k6 ?k7 ?k8 ?k9 ?kB ?kD ?_ ?c2 ?c3 ?c4; (case kA => exact rfl); (case kF => exact rfl); (case kK => assumption); (case k1 => k_asm); (case k2 => k_asm); (case k3 => k_asm); (case k4 => k_asm); (case kO => k_asm); (case k5 => k_asm); (case k6 => k_is); (case k7 => k_is); (case k8 => ktr_room); (case k9 => first | exact BindsTo.of_eq rfl | exact binds_K (by k_in) rfl (by k_is) rfl rfl rfl | (refine' kp_binds ?kx ?ke; (case kx => k_in); (case ke => exact fun _ => rfl))); (case kB => exact rfl); (case kD => decide +kernel); (case c2 => exact rfl); (case c3 => exact rfl); (case c4 => exact rfl); k_whole; intro g' L' h' tk' cells' FG' F' N' Y' B' X' T' l1 lim'; (try k_lt l1); k_cells Y'; (try simp only [List.cons_append, List.nil_append] at N'); (try dsimp only); (try k_fold))))
  k_with "m:cl sub" => (first | exact fun _ h => h | exact List.forall_mem_nil _ | kcj_all)
  k_with "m:cl end" => ((refine' cl_end ?h ?N ?F ?N2 ?_ ?_; (case h => assumption); (case N => assumption); (case F => k_asm); (case N2 => k_asm); rotate_left))
  k_with "m:cl int" => ((refine' cl_end ?h ?N ?F ?N2 ?hn (r_int ?_); (case h => assumption); (case N => assumption); (case F => k_asm); (case N2 => k_asm); (case hn => walk_at "cl sub")))
  k_with "m:cl str" => ((refine' cl_end ?h ?N ?F ?N2 ?hn (r_str ?_); (case h => assumption); (case N => assumption); (case F => k_asm); (case N2 => k_asm); (case hn => walk_at "cl sub")))
  k_with "m:cl bool" => ((refine' cl_end ?h ?N ?F ?N2 ?hn (r_bool ?_); (case h => assumption); (case N => assumption); (case F => k_asm); (case N2 => k_asm); (case hn => walk_at "cl sub")))
  k_with "m:call builtin:list.append" => ((k_here; (with_reducible show wpAny _ _ (call (Value.builtin _) [Value.ref _, _]) _ _ _); k_dflt (refine' append_K ?k1 ?k2 ?k3 ?_ ?z; (case k1 => k_asm); (case k2 => k_asm); (case k3 => k_upd); (case z => exact Nat.le_of_ble_eq_true rfl); k_whole); intro h' F' N'; (try k_sweep)))
  k_with "m:call ref" => ((k_here; k_dflt (k_extra "call ref")))
  k_with "m:cl off1" => (first | exact List.forall_mem_nil _ | exact OwnOff.ne (by assumption) (by simp) | (refine List.forall_mem_cons.mpr ⟨?_, ?_⟩ <;> walk_at "cl off1") | k_ne)
  k_with "m:cl off" => ((unfold Off; walk_at "cl off1"))
  k_with "m:cl mem" => (first | exact List.forall_mem_nil _ | (refine List.forall_mem_cons.mpr ⟨by k_mem, ?_⟩; walk_at "cl mem") | (intro p9 h9; kst_mem))
  k_with "m:cl all" => (((try simp only [List.cons_append, List.nil_append, List.append_nil]); walk_at "cl mem"))
  k_with "m:execs cons" => ((k_here; (with_reducible refine tok_add ?_); intro tk; (try dsimp only); (try k_fold)))
  k_with "m:storeName" => ((k_here; first | ((with_reducible refine tok_sp ?_); intro t9) | ((with_reducible refine tok_st ?_); intro t9)))
  k_with "m:subscriptTail Name Name ref int" => ((k_here; (with_reducible show wpAny _ _ (subscriptTail _ _ (Value.ref _) (Value.int _ _)) _ _ _); k_dflt (refine' item_mid ?l ?v ?a ?b ?c ?d ?_; (case l => is_list); (case v => assumption); (case a => omega); (case b => omega); (case c => omega); (case d => assumption)); intro t9 m1 m2 m3))
  trivial
set_option maxHeartbeats 1000000 in
theorem bisr_cl (l : Addr) (vs : List Value) (xs : List Str) (n : Nat) (x : Str) (tx t0 : Tok) (hv : StrsAre vs xs) (hl : xs.length ≤ 100) :
    Cl w p loose mean mg mb 105 6 60 [.ref l, .str x tx, .int 0 t0, .none] [(l, listOf vs.toArray n)] (RInt [(l, listOf vs.toArray n)] (bisR xs x xs.length 0 xs.length)) := by
  unfold Cl
  k_fill
  intro rest dp un gd cn cs a ccd cl outer A₀ base h₀ L m s Q E B CD F X N O T hk hd hu hret
  walk_at "cl enter"
  k_with "exec While Compare cons nil" => k_while (fun _ lo hi => 0 ≤ lo ∧ lo ≤ hi ∧ hi ≤ (xs.length : Int) ∧ BR xs x (bisR xs x xs.length 0 xs.length) lo hi) (fun _ lo hi => (hi - lo).toNat) "lo" "hi"
  k_with "state" => (refine ⟨by omega, by omega, by omega, ?_⟩; first | exact BR.start _ _ | exact BR.left (by assumption) (by assumption) (by assumption) (by simp_all) | exact BR.right (by assumption) (by assumption) (by assumption) (by simp_all))
  k_steps
  walk_at "cl int"
  exact BR.done (by assumption) (by assumption)

end
section
/-- bisect_left's own search, turn by turn -/
noncomputable def bisL (xs : List Str) (x : Str) : Nat → Int → Int → Int
  | 0, lo, _ => lo
  | f + 1, lo, hi => if lo < hi then (if ltS (xs.getD ((lo + hi).fdiv 2).toNat default) x then bisL xs x f ((lo + hi).fdiv 2 + 1) hi else bisL xs x f lo ((lo + hi).fdiv 2)) else lo
noncomputable def BL (xs : List Str) (x : Str) (r lo hi : Int) : Prop := ∃ f : Nat, hi - lo ≤ (f : Int) ∧ bisL xs x f lo hi = r
theorem rows_a9 : True := by
  k_with_none
  k_with "m:cl enter" => (((refine wpAny_call ?_); k_dflt (refine' code_defV ?k1 ?k2 ?k3 ?k4 ?kO ?k5 ?kA ?kF ?kK ?k6 ?k7 ?k8 ?k9 ?kB ?_ ?c2 ?c3 ?c4 ?c5; (case kA => exact rfl); (case kF => exact rfl); (case kK => assumption); (case k1 => k_asm); (case k2 => k_asm); (case k3 => k_asm); (case k4 => k_asm); (case kO => k_asm); (case k5 => k_asm); (case k6 => k_is); (case k7 => k_is); (case k8 => ktr_room); (case k9 => first | exact BindsTo.of_eq rfl | exact binds_K (by k_in) rfl (by k_is) rfl rfl rfl | (refine' kp_binds ?kx ?ke; (case kx => k_in); (case ke => exact fun _ => rfl))); (case c5 => decide); (case kB => exact locs rfl); (case c2 => exact rfl); (case c3 => exact rfl); (case c4 => exact rfl); k_whole; intro g' L' h' FG' F' N' B' X' T' l1 lim'; (try k_lt l1); (try dsimp only); (try k_fold))))
  k_with "m:cl enterC" => (((refine wpAny_call ?_); k_dflt (refine' code_defCV ?k1 ?k2 ?k3 ?k4 ?kO ?k5 ?kA ?kF ?kK ?k6 ?k7 ?k8 ?k9 ?kB ?kD ?_ ?c2 ?c3 ?c4; (case kA => exact rfl); (case kF => exact rfl); (case kK => assumption); (case k1 => k_asm); (case k2 => k_asm); (case k3 => k_asm); (case k4 => k_asm); (case kO => k_asm); (case k5 => k_asm); (case k6 => k_is); (case k7 => k_is); (case k8 => ktr_room); (case k9 => first | exact BindsTo.of_eq rfl | exact binds_K (by k_in) rfl (by k_is) rfl rfl rfl | (refine' kp_binds ?kx ?ke; (case kx => k_in); (case ke => exact fun _ => rfl))); (case kB => exact rfl); (case kD => decide +kernel); (case c2 => exact rfl); (case c3 => exact rfl); (case c4 => exact rfl); k_whole; intro g' L' h' tk' cells' FG' F' N' Y' B' X' T' l1 lim'; (try k_lt l1); k_cells Y'; (try simp only [List.cons_append, List.nil_append] at N'); (try dsimp only); (try k_fold))))
  k_with "m:cl sub" => (first | exact fun _ h => h | exact List.forall_mem_nil _ | kcj_all)
  k_with "m:cl end" => ((refine' cl_end ?h ?N ?F ?N2 ?_ ?_; (case h => assumption); (case N => assumption); (case F => k_asm); (case N2 => k_asm); rotate_left))
  k_with "m:cl int" => ((refine' cl_end ?h ?N ?F ?N2 ?hn (r_int ?_); (case h => assumption); (case N => assumption); (case F => k_asm); (case N2 => k_asm); (case hn => walk_at "cl sub")))
  k_with "m:cl str" => ((refine' cl_end ?h ?N ?F ?N2 ?hn (r_str ?_); (case h => assumption); (case N => assumption); (case F => k_asm); (case N2 => k_asm); (case hn => walk_at "cl sub")))
  k_with "m:cl bool" => ((refine' cl_end ?h ?N ?F ?N2 ?hn (r_bool ?_); (case h => assumption); (case N => assumption); (case F => k_asm); (case N2 => k_asm); (case hn => walk_at "cl sub")))
  k_with "m:call builtin:list.append" => ((k_here; (with_reducible show wpAny _ _ (call (Value.builtin _) [Value.ref _, _]) _ _ _); k_dflt (refine' append_K ?k1 ?k2 ?k3 ?_ ?z; (case k1 => k_asm); (case k2 => k_asm); (case k3 => k_upd); (case z => exact Nat.le_of_ble_eq_true rfl); k_whole); intro h' F' N'; (try k_sweep)))
  k_with "m:call ref" => ((k_here; k_dflt (k_extra "call ref")))
  k_with "m:cl off1" => (first | exact List.forall_mem_nil _ | exact OwnOff.ne (by assumption) (by simp) | (refine List.forall_mem_cons.mpr ⟨?_, ?_⟩ <;> walk_at "cl off1") | k_ne)
  k_with "m:cl off" => ((unfold Off; walk_at "cl off1"))
  k_with "m:cl mem" => (first | exact List.forall_mem_nil _ | (refine List.forall_mem_cons.mpr ⟨by k_mem, ?_⟩; walk_at "cl mem") | (intro p9 h9; kst_mem))
  k_with "m:cl all" => (((try simp only [List.cons_append, List.nil_append, List.append_nil]); walk_at "cl mem"))
  k_with "m:execs cons" => ((k_here; (with_reducible refine tok_add ?_); intro tk; (try dsimp only); (try k_fold)))
  k_with "m:storeName" => ((k_here; first | ((with_reducible refine tok_sp ?_); intro t9) | ((with_reducible refine tok_st ?_); intro t9)))
  trivial
theorem BL.start (xs : List Str) (x : Str) : BL xs x (bisL xs x xs.length 0 xs.length) 0 xs.length := ⟨xs.length, by omega, rfl⟩
theorem BL.right {xs : List Str} {x : Str} {r lo hi : Int} (h : BL xs x r lo hi) (h0 : 0 ≤ lo) (h1 : lo < hi) (t : decide ((xs.getD ((lo + hi).fdiv 2).toNat default).cps.toList < x.cps.toList) = true) : BL xs x r ((lo + hi).fdiv 2 + 1) hi := by
  obtain ⟨f, hf, e⟩ := h
  have q := mid_b h0 h1
  cases f with
  | zero => exact absurd hf (by omega)
  | succ f =>
    refine ⟨f, by omega, ?_⟩
    have t' : ltS (xs.getD ((lo + hi).fdiv 2).toNat default) x = true := t
    rw [bisL, if_pos h1, if_pos t'] at e
    exact e
theorem BL.left {xs : List Str} {x : Str} {r lo hi : Int} (h : BL xs x r lo hi) (h0 : 0 ≤ lo) (h1 : lo < hi) (t : decide ((xs.getD ((lo + hi).fdiv 2).toNat default).cps.toList < x.cps.toList) = false) : BL xs x r lo ((lo + hi).fdiv 2) := by
  obtain ⟨f, hf, e⟩ := h
  have q := mid_b h0 h1
  cases f with
  | zero => exact absurd hf (by omega)
  | succ f =>
    refine ⟨f, by omega, ?_⟩
    have t' : ¬ ltS (xs.getD ((lo + hi).fdiv 2).toNat default) x = true := by unfold ltS; rw [t]; exact Bool.false_ne_true
    rw [bisL, if_pos h1, if_neg t'] at e
    exact e
theorem BL.done {xs : List Str} {x : Str} {r lo hi : Int} (h : BL xs x r lo hi) (h1 : ¬ lo < hi) : lo = r := by
  obtain ⟨f, _, e⟩ := h
  cases f with
  | zero => exact e
  | succ f => rw [bisL, if_neg h1] at e; exact e
theorem rows_a10 : True := by
  k_with_none
  k_with "m:cl enter" => (((refine wpAny_call ?_); k_dflt (refine' code_defV ?k1 ?k2 ?k3 ?k4 ?kO ?k5 ?kA ?kF ?kK ?k6 ?k7 ?k8 ?k9 ?kB ?_ ?c2 ?c3 ?c4 ?c5; (case kA => exact rfl); (case kF => exact rfl); (case kK => assumption); (case k1 => k_asm); (case k2 => k_asm); (case k3 => k_asm); (case k4 => k_asm); (case kO => k_asm); (case k5 => k_asm); (case k6 => k_is); (case k7 => k_is); (case k8 => ktr_room); (case k9 => first | exact BindsTo.of_eq rfl | exact binds_K (by k_in) rfl (by k_is) rfl rfl rfl | (refine' kp_binds ?kx ?ke; (case kx => k_in); (case ke => exact fun _ => rfl))); (case c5 => decide); (case kB => exact locs rfl); (case c2 => exact rfl); (case c3 => exact rfl); (case c4 => exact rfl); k_whole; intro g' L' h' FG' F' N' B' X' T' l1 lim'; (try k_lt l1); (try dsimp only); (try k_fold))))
  k_with "m:cl enterC" => (((refine wpAny_call ?_); k_dflt (refine' code_defCV ?k1 ?k2 ?k3 ?k4 ?kO ?k5 ?kA ?kF ?kK ?k6 ?k7 ?k8 ?k9 ?kB ?kD ?_ ?c2 ?c3 ?c4; (case kA => exact rfl); (case kF => exact rfl); (case kK => assumption); (case k1 => k_asm); (case k2 => k_asm); (case k3 => k_asm); (case k4 => k_asm); (case kO => k_asm); (case k5 => k_asm); (case k6 => k_is); (case k7 => k_is); (case k8 => ktr_room); (case k9 => first | exact BindsTo.of_eq rfl | exact binds_K (by k_in) rfl (by k_is) rfl rfl rfl | (refine' kp_binds ?kx ?ke; (case kx => k_in); (case ke => exact fun _ => rfl))); (case kB => exact rfl); (case kD => decide +kernel); (case c2 => exact rfl); (case c3 => exact rfl); (case c4 => exact rfl); k_whole; intro g' L' h' tk' cells' FG' F' N' Y' B' X' T' l1 lim'; (try k_lt l1); k_cells Y'; (try simp only [List.cons_append, List.nil_append] at N'); (try dsimp only); (try k_fold))))
  k_with "m:cl sub" => (first | exact fun _ h => h | exact List.forall_mem_nil _ | kcj_all)
  k_with "m:cl end" => ((refine' cl_end ?h ?N ?F ?N2 ?_ ?_; (case h => assumption); (case N => assumption); (case F => k_asm); (case N2 => k_asm); rotate_left))
  k_with "m:cl int" => ((refine' cl_end ?h ?N ?F ?N2 ?hn (r_int ?_); (case h => assumption); (case N => assumption); (case F => k_asm); (case N2 => k_asm); (case hn => walk_at "cl sub")))
  k_with "m:cl str" => ((refine' cl_end ?h ?N ?F ?N2 ?hn (r_str ?_); (case h => assumption); (case N => assumption); (case F => k_asm); (case N2 => k_asm); (case hn => walk_at "cl sub")))
  k_with "m:cl bool" => ((refine' cl_end ?h ?N ?F ?N2 ?hn (r_bool ?_); (case h => assumption); (case N => assumption); (case F => k_asm); (case N2 => k_asm); (case hn => walk_at "cl sub")))
  k_with "m:call builtin:list.append" => ((k_here; (with_reducible show wpAny _ _ (call (Value.builtin _) [Value.ref _, _]) _ _ _); k_dflt (refine' append_K ?k1 ?k2 ?k3 ?_ ?z; (case k1 => k_asm); (case k2 => k_asm); (case k3 => k_upd); (case z => exact Nat.le_of_ble_eq_true rfl); k_whole); intro h' F' N'; (try k_sweep)))
  k_with "m:call ref" => ((k_here; k_dflt (k_extra "call ref")))
  k_with "m:cl off1" => (first | exact List.forall_mem_nil _ | exact OwnOff.ne (by assumption) (by simp) | (refine List.forall_mem_cons.mpr ⟨?_, ?_⟩ <;> walk_at "cl off1") | k_ne)
  k_with "m:cl off" => ((unfold Off; walk_at "cl off1"))
  k_with "m:cl mem" => (first | exact List.forall_mem_nil _ | (refine List.forall_mem_cons.mpr ⟨by k_mem, ?_⟩; walk_at "cl mem") | (intro p9 h9; kst_mem))
  k_with "m:cl all" => (((try simp only [List.cons_append, List.nil_append, List.append_nil]); walk_at "cl mem"))
  k_with "m:execs cons" => ((k_here; (with_reducible refine tok_add ?_); intro tk; (try dsimp only); (try k_fold)))
  k_with "m:storeName" => ((k_here; first | ((with_reducible refine tok_sp ?_); intro t9) | ((with_reducible refine tok_st ?_); intro t9)))
  k_with "m:subscriptTail Name Name ref int" => ((k_here; (with_reducible show wpAny _ _ (subscriptTail _ _ (Value.ref _) (Value.int _ _)) _ _ _); k_dflt (refine' item_mid ?l ?v ?a ?b ?c ?d ?_; (case l => is_list); (case v => assumption); (case a => omega); (case b => omega); (case c => omega); (case d => assumption)); intro t9 m1 m2 m3))
  trivial
set_option maxHeartbeats 1000000 in
theorem bisl_cl (l : Addr) (vs : List Value) (xs : List Str) (n : Nat) (x : Str) (tx : Tok) (hv : StrsAre vs xs) (hl : xs.length ≤ 100) :
    Cl w p loose mean mg mb 114 6 60 [.ref l, .str x tx] [(l, listOf vs.toArray n)] (RInt [(l, listOf vs.toArray n)] (bisL xs x xs.length 0 xs.length)) := by
  unfold Cl
  k_fill
  intro rest dp un gd cn cs a ccd cl outer A₀ base h₀ L m s Q E B CD F X N O T hk hd hu hret
  walk_at "cl enter"
  k_with "exec While Compare cons nil" => k_while (fun _ lo hi => 0 ≤ lo ∧ lo ≤ hi ∧ hi ≤ (xs.length : Int) ∧ BL xs x (bisL xs x xs.length 0 xs.length) lo hi) (fun _ lo hi => (hi - lo).toNat) "lo" "hi"
  k_with "state" => (refine ⟨by omega, by omega, by omega, ?_⟩; first | exact BL.start _ _ | exact BL.left (by assumption) (by assumption) (by assumption) (by simp_all) | exact BL.right (by assumption) (by assumption) (by assumption) (by simp_all))
  k_steps
  walk_at "cl int"
  exact BL.done (by assumption) (by assumption)

end
section
theorem rows_a11 : True := by
  k_with_none
  k_with "m:cl enter" => (((refine wpAny_call ?_); k_dflt (refine' code_defV ?k1 ?k2 ?k3 ?k4 ?kO ?k5 ?kA ?kF ?kK ?k6 ?k7 ?k8 ?k9 ?kB ?_ ?c2 ?c3 ?c4 ?c5; (case kA => exact rfl); (case kF => exact rfl); (case kK => assumption); (case k1 => k_asm); (case k2 => k_asm); (case k3 => k_asm); (case k4 => k_asm); (case kO => k_asm); (case k5 => k_asm); (case k6 => k_is); (case k7 => k_is); (case k8 => ktr_room); (case k9 => first | exact BindsTo.of_eq rfl | exact binds_K (by k_in) rfl (by k_is) rfl rfl rfl | (refine' kp_binds ?kx ?ke; (case kx => k_in); (case ke => exact fun _ => rfl))); (case c5 => decide); (case kB => exact locs rfl); (case c2 => exact rfl); (case c3 => exact rfl); (case c4 => exact rfl); k_whole; intro g' L' h' FG' F' N' B' X' T' l1 lim'; (try k_lt l1); (try dsimp only); (try k_fold))))
  k_with "m:cl enterC" => (((refine wpAny_call ?_); k_dflt (refine' code_defCV ?k1 ?k2 ?k3 ?k4 ?kO ?k5 ?kA ?kF ?kK ?k6 ?k7 ?k8 ?k9 ?kB ?kD ?_ ?c2 ?c3 ?c4; (case kA => exact rfl); (case kF => exact rfl); (case kK => assumption); (case k1 => k_asm); (case k2 => k_asm); (case k3 => k_asm); (case k4 => k_asm); (case kO => k_asm); (case k5 => k_asm); (case k6 => k_is); (case k7 => k_is); (case k8 => ktr_room); (case k9 => first | exact BindsTo.of_eq rfl | exact binds_K (by k_in) rfl (by k_is) rfl rfl rfl | (refine' kp_binds ?kx ?ke; (case kx => k_in); (case ke => exact fun _ => rfl))); (case kB => exact rfl); (case kD => decide +kernel); (case c2 => exact rfl); (case c3 => exact rfl); (case c4 => exact rfl); k_whole; intro g' L' h' tk' cells' FG' F' N' Y' B' X' T' l1 lim'; (try k_lt l1); k_cells Y'; (try simp only [List.cons_append, List.nil_append] at N'); (try dsimp only); (try k_fold))))
  k_with "m:cl sub" => (first | exact fun _ h => h | exact List.forall_mem_nil _ | kcj_all)
  k_with "m:cl end" => ((refine' cl_end ?h ?N ?F ?N2 ?_ ?_; (case h => assumption); (case N => assumption); (case F => k_asm); (case N2 => k_asm); rotate_left))
  k_with "m:cl int" => ((refine' cl_end ?h ?N ?F ?N2 ?hn (r_int ?_); (case h => assumption); (case N => assumption); (case F => k_asm); (case N2 => k_asm); (case hn => walk_at "cl sub")))
  k_with "m:cl str" => ((refine' cl_end ?h ?N ?F ?N2 ?hn (r_str ?_); (case h => assumption); (case N => assumption); (case F => k_asm); (case N2 => k_asm); (case hn => walk_at "cl sub")))
  k_with "m:cl bool" => ((refine' cl_end ?h ?N ?F ?N2 ?hn (r_bool ?_); (case h => assumption); (case N => assumption); (case F => k_asm); (case N2 => k_asm); (case hn => walk_at "cl sub")))
  k_with "m:call builtin:list.append" => ((k_here; (with_reducible show wpAny _ _ (call (Value.builtin _) [Value.ref _, _]) _ _ _); k_dflt (refine' append_K ?k1 ?k2 ?k3 ?_ ?z; (case k1 => k_asm); (case k2 => k_asm); (case k3 => k_upd); (case z => exact Nat.le_of_ble_eq_true rfl); k_whole); intro h' F' N'; (try k_sweep)))
  k_with "m:call ref" => ((k_here; k_dflt (k_extra "call ref")))
  k_with "m:cl off1" => (first | exact List.forall_mem_nil _ | exact OwnOff.ne (by assumption) (by simp) | (refine List.forall_mem_cons.mpr ⟨?_, ?_⟩ <;> walk_at "cl off1") | k_ne)
  k_with "m:cl off" => ((unfold Off; walk_at "cl off1"))
  k_with "m:cl mem" => (first | exact List.forall_mem_nil _ | (refine List.forall_mem_cons.mpr ⟨by k_mem, ?_⟩; walk_at "cl mem") | (intro p9 h9; kst_mem))
  k_with "m:cl all" => (((try simp only [List.cons_append, List.nil_append, List.append_nil]); walk_at "cl mem"))
  k_with "m:execs cons" => ((k_here; (with_reducible refine tok_add ?_); intro tk; (try dsimp only); (try k_fold)))
  k_with "m:storeName" => ((k_here; first | ((with_reducible refine tok_sp ?_); intro t9) | ((with_reducible refine tok_st ?_); intro t9)))
  trivial
theorem off_nil {vis : List (Addr × Obj)} : Off vis [] := fun _ _ _ h => nomatch h
theorem bisR_in (xs : List Str) (x : Str) : ∀ (f : Nat) (lo hi : Int), 0 ≤ lo → lo ≤ hi → lo ≤ bisR xs x f lo hi ∧ bisR xs x f lo hi ≤ hi
  | 0, lo, hi, _, h => ⟨Int.le_refl _, h⟩
  | f + 1, lo, hi, h0, h => by
    rw [bisR]
    split
    · rename_i h1
      have q := mid_b h0 h1
      split
      · have := bisR_in xs x f lo ((lo + hi).fdiv 2) h0 q.2.1; omega
      · have := bisR_in xs x f ((lo + hi).fdiv 2 + 1) hi (by omega) (by omega); omega
    · exact ⟨Int.le_refl _, h⟩
/-- where insort_right lays x -/
noncomputable def rPos (xs : List Str) (x : Str) : Int := bisR xs x xs.length 0 xs.length
theorem rPos_in (xs : List Str) (x : Str) : 0 ≤ rPos xs x ∧ rPos xs x ≤ xs.length := bisR_in xs x _ 0 _ (Int.le_refl _) (by omega)
noncomputable def insF (xs : List Str) (x : Str) : List Str := xs.take (rPos xs x).toNat ++ x :: xs.drop (rPos xs x).toNat
theorem strs_take : ∀ {vs : List Value} {xs : List Str} (n : Nat), StrsAre vs xs → StrsAre (vs.take n) (xs.take n)
  | _, _, 0, _ => .nil
  | _, _, _ + 1, .nil => .nil
  | _, _, n + 1, .cons x t r => .cons x t (strs_take n r)
theorem strs_drop : ∀ {vs : List Value} {xs : List Str} (n : Nat), StrsAre vs xs → StrsAre (vs.drop n) (xs.drop n)
  | _, _, 0, h => h
  | _, _, _ + 1, .nil => .nil
  | _, _, n + 1, .cons x t r => strs_drop n r
theorem strs_len {vs : List Value} {xs : List Str} (h : StrsAre vs xs) : vs.length = xs.length := by induction h with | nil => rfl | cons _ _ _ ih => simp [ih]
theorem fits_pos {xs : List Str} {x : Str} (hl : xs.length ≤ 100) : Builtin.List.listFitsIndex (rPos xs x) = true := by
  have q := rPos_in xs x
  unfold Builtin.List.listFitsIndex
  simp
  omega
theorem ins_strs {vs : List Value} {xs : List Str} {x : Str} {t : Tok} (hv : StrsAre vs xs) : StrsAre (kl_ins vs (rPos xs x) (.str x t)) (insF xs x) := by
  have q := rPos_in xs x
  unfold kl_ins insF
  rw [if_neg (by omega), strs_len hv, Nat.min_eq_left (by omega)]
  exact StrsAre.append' (strs_take _ hv) (.cons _ _ (strs_drop _ hv))
noncomputable def RIns (l : Addr) (n : Nat) (ys : List Str) : Addr → Value → List (Addr × Obj) → Prop := fun _ v vis' => v = .none ∧ ∃ vs', StrsAre vs' ys ∧ vis' = [(l, listOf vs'.toArray (n + 1))]
theorem rows_a12 : True := by
  k_with_none
  k_with "m:cl enter" => (((refine wpAny_call ?_); k_dflt (refine' code_defV ?k1 ?k2 ?k3 ?k4 ?kO ?k5 ?kA ?kF ?kK ?k6 ?k7 ?k8 ?k9 ?kB ?_ ?c2 ?c3 ?c4 ?c5; (case kA => exact rfl); (case kF => exact rfl); (case kK => assumption); (case k1 => k_asm); (case k2 => k_asm); (case k3 => k_asm); (case k4 => k_asm); (case kO => k_asm); (case k5 => k_asm); (case k6 => k_is); (case k7 => k_is); (case k8 => ktr_room); (case k9 => first | exact BindsTo.of_eq rfl | exact binds_K (by k_in) rfl (by k_is) rfl rfl rfl | (refine' kp_binds ?kx ?ke; (case kx => k_in); (case ke => exact fun _ => rfl))); (case c5 => decide); (case kB => exact locs rfl); (case c2 => exact rfl); (case c3 => exact rfl); (case c4 => exact rfl); k_whole; intro g' L' h' FG' F' N' B' X' T' l1 lim'; (try k_lt l1); (try dsimp only); (try k_fold))))
  k_with "m:cl enterC" => (((refine wpAny_call ?_); k_dflt (refine' code_defCV ?k1 ?k2 ?k3 ?k4 ?kO ?k5 ?kA ?kF ?kK ?k6 ?k7 ?k8 ?k9 ?kB ?kD ?_ ?c2 ?c3 ?c4; (case kA => exact rfl); (case kF => exact rfl); (case kK => assumption); (case k1 => k_asm); (case k2 => k_asm); (case k3 => k_asm); (case k4 => k_asm); (case kO => k_asm); (case k5 => k_asm); (case k6 => k_is); (case k7 => k_is); (case k8 => ktr_room); (case k9 => first | exact BindsTo.of_eq rfl | exact binds_K (by k_in) rfl (by k_is) rfl rfl rfl | (refine' kp_binds ?kx ?ke; (case kx => k_in); (case ke => exact fun _ => rfl))); (case kB => exact rfl); (case kD => decide +kernel); (case c2 => exact rfl); (case c3 => exact rfl); (case c4 => exact rfl); k_whole; intro g' L' h' tk' cells' FG' F' N' Y' B' X' T' l1 lim'; (try k_lt l1); k_cells Y'; (try simp only [List.cons_append, List.nil_append] at N'); (try dsimp only); (try k_fold))))
  k_with "m:cl sub" => (first | exact fun _ h => h | exact List.forall_mem_nil _ | kcj_all)
  k_with "m:cl end" => ((refine' cl_end ?h ?N ?F ?N2 ?_ ?_; (case h => assumption); (case N => assumption); (case F => k_asm); (case N2 => k_asm); rotate_left))
  k_with "m:cl int" => ((refine' cl_end ?h ?N ?F ?N2 ?hn (r_int ?_); (case h => assumption); (case N => assumption); (case F => k_asm); (case N2 => k_asm); (case hn => walk_at "cl sub")))
  k_with "m:cl str" => ((refine' cl_end ?h ?N ?F ?N2 ?hn (r_str ?_); (case h => assumption); (case N => assumption); (case F => k_asm); (case N2 => k_asm); (case hn => walk_at "cl sub")))
  k_with "m:cl bool" => ((refine' cl_end ?h ?N ?F ?N2 ?hn (r_bool ?_); (case h => assumption); (case N => assumption); (case F => k_asm); (case N2 => k_asm); (case hn => walk_at "cl sub")))
  k_with "m:call builtin:list.append" => ((k_here; (with_reducible show wpAny _ _ (call (Value.builtin _) [Value.ref _, _]) _ _ _); k_dflt (refine' append_K ?k1 ?k2 ?k3 ?_ ?z; (case k1 => k_asm); (case k2 => k_asm); (case k3 => k_upd); (case z => exact Nat.le_of_ble_eq_true rfl); k_whole); intro h' F' N'; (try k_sweep)))
  k_with "m:call ref" => ((k_here; k_dflt (k_extra "call ref")))
  k_with "m:cl off1" => (first | exact List.forall_mem_nil _ | exact OwnOff.ne (by assumption) (by simp) | (refine List.forall_mem_cons.mpr ⟨?_, ?_⟩ <;> walk_at "cl off1") | k_ne)
  k_with "m:cl off" => ((unfold Off; walk_at "cl off1"))
  k_with "m:cl mem" => (first | exact List.forall_mem_nil _ | (refine List.forall_mem_cons.mpr ⟨by k_mem, ?_⟩; walk_at "cl mem") | (intro p9 h9; kst_mem))
  k_with "m:cl all" => (((try simp only [List.cons_append, List.nil_append, List.append_nil]); walk_at "cl mem"))
  k_with "m:execs cons" => ((k_here; (with_reducible refine tok_add ?_); intro tk; (try dsimp only); (try k_fold)))
  k_with "m:storeName" => ((k_here; first | ((with_reducible refine tok_sp ?_); intro t9) | ((with_reducible refine tok_st ?_); intro t9)))
  k_with "m:call ref" => ((k_here; k_dflt (refine' cl_use (rest := []) (bisr_cl _ _ _ _ _ _ _ ?hv ?hl) ?k1 ?kC ?k2 ?k3 ?k4 ?ha ?kO ?k5 ?kK ?kd ?ku ?_; (case k1 => k_asm); (case kC => assumption); (case k2 => k_asm); (case k3 => k_asm); (case k4 => k_asm); (case hv => assumption); (case hl => assumption); (case ha => (simp only [List.append_nil]; refine List.forall_mem_cons.mpr ⟨?_, List.forall_mem_nil _⟩; k_mem)); (case kO => exact off_nil); (case k5 => k_asm); (case kK => first | exact rfl | assumption);  (case kd => ktr_room); (case ku => ktr_units)); intro lim9 v9 n9 h9 tk9 lt9 R9 F9 N9; (obtain ⟨e9, t9, e9'⟩ := R9); subst e9; subst e9'; (try simp only [List.append_nil] at N9); (try dsimp only); (try k_fold)))
  k_with "m:call builtin:list.insert" => ((k_here; (with_reducible show wpAny _ _ (call (Value.builtin _) [Value.ref _, Value.int _ _, _]) _ _ _); k_dflt (refine' kl_insert (x := rPos _ _) ?F ?N ?f rfl ?U ?z ?_; (case F => k_asm); (case N => k_asm); (case U => k_upd); (case f => exact fits_pos (by assumption)); (case z => (rw [strs_len (by assumption), sizeLine_eq]; omega)); k_whole); intro h' F' N'; (try k_sweep)))
  trivial
set_option maxHeartbeats 1000000 in
theorem insort_cl (l : Addr) (vs : List Value) (xs : List Str) (n : Nat) (x : Str) (tx : Tok) (hv : StrsAre vs xs) (hl : xs.length ≤ 100) :
    Cl w p loose mean mg mb 96 10 90 [.ref l, .str x tx] [(l, listOf vs.toArray n)] (RIns l n (insF xs x)) := by
  unfold Cl
  k_fill
  intro rest dp un gd cn cs a ccd cl outer A₀ base h₀ L m s Q E B CD F X N O T hk hd hu hret
  walk_at "cl enter"
  k_steps
  refine' cl_end hret N (by k_asm) (by k_asm) ?_ ⟨rfl, _, ins_strs hv, rfl⟩
  kcj_all

end
section
section
variable {prog : Program} {A₀ A : Around} {s : Shared} {base h₀ : Heap} {outer : List Env} {L : Addr} {m : Str → Option Value} {env : Env} {vis rest : List (Addr × Obj)} {K : Frag}
  {R : Result → Shared → Prop} {name qual : Str} {params : Arguments} {body : List Stmt} {scope : Scope} {cl : List (Str × Addr)} {doc pm ctv : Value} {c' f : Addr} {args : Args} {binds : List (Str × Value)}
theorem code_nestV (B : Below A₀ base outer h₀) (F : Fr h₀ L s.heap m) (X₀ : K.In h₀) (N : News h₀ L s.heap (vis ++ rest)) (O : Off vis rest) (T : Top p loose mean mg mb h₀) (hA : A.frames = some (env :: outer)) (hf : env.frame = some L) (hke : env.scope.kind = .function)
    (ho : (f, fnMade name qual params body scope cl doc pm c' ctv) ∈ vis) (hcd : s.heap.CodeRec (.ref c') qual) (hroom : A.depth < recursionLimit)
    (hbind : BindsTo s (fnX name qual params body scope cl .none .none doc pm none (.ref c') ctv) args binds) (hloc : ∀ y ∈ binds, scope.names.lookup y.1 = some .local)
    (h : ∀ g L' h₁, Fr h₀ L g m → Fr g L' h₁ (fun y => binds.reverse.lookup y) → News g L' h₁ vis → Below A base (env :: outer) g → K.In g → Top p loose mean mg mb g → (∀ q ∈ vis, q.1 < L') → s.heap.objs.size ≤ L' →
      wpAny (model prog w) (A.deeper (envX qual scope L' f (.ref c') cl)) (execs body (envX qual scope L' f (.ref c') cl))
        (fun fl s' => LeaveK h₀ L m g (fun r s'' => ClEnd rest s''.heap (R r s'')) (match fl with | .ret v => v | _ => .none) s')
        (fun e s' => wpAny (model prog w) (A.deeper (envX qual scope L' f (.ref c') cl)) (leaving (envX qual scope L' f (.ref c') cl) e) (fun _ s'' => R (.error e) s'') (fun e' s'' => R (.error e') s'') s')
        { s with heap := h₁, toks := s.toks + binds.length })
    (hco : scope.isCoroutine = false) (hgen : scope.isGenerator = false) (hk : scope.kind = .function)
    (hcell : ∀ x ∈ scope.names, x.2 ≠ .cell) : codeAny (model prog w) A (.call (.ref f) args) R s := by
  have NV : News h₀ L s.heap vis := fun q hq => N q (List.mem_append_left _ hq)
  obtain ⟨FG, BG, st, lv⟩ := groundX (R := fun r s'' => ClEnd rest s''.heap (R r s'')) B F NV hA hf hke
  refine codeAny_call_def (fd := fnX name qual params body scope cl .none .none doc pm none (.ref c') ctv) (body := body) (binds := binds) hroom (NV _ ho).1 rfl (T.nolimit.keeps F.keep) hcd rfl hbind hcell hloc (fun h₁ hns hk₁ => ?_) hco hgen hk
  refine wpAny_mono (h _ s.heap.objs.size h₁ FG ⟨hns, fun b o e => hk₁ b o (of_hideAll _ e), Nat.le_of_eq (hideAll_size _ _)⟩
    (fun q hq => ⟨hk₁ _ _ (NV q hq).1, Nat.ne_of_lt (Heap.lt_size (NV q hq).1), hideAll_none _ (List.mem_map_of_mem hq)⟩) BG (X₀.keeps st) (T.keeps st) (fun q hq => Heap.lt_size (NV q hq).1) (Nat.le_refl _)) (fun fl s' hl => ?_) fun _ _ y => y
  have q := lv _ _ hl
  obtain ⟨L', m', news', F', _, _⟩ := hl
  exact q (kept_of N O rfl F')
end
/-- what _int2digits' inner def lays: x's digits of n bits from lo up to hi -/
noncomputable def innerF (n : Int) : Nat → Int → Int → Int → List Int → List Int
  | 0, _, _, _, ds => ds
  | f + 1, x, lo, hi, ds => if lo + 1 = hi then ds.set lo.toNat x else
      innerF n f (x.fdiv (2 ^ (((lo + hi).fdiv (2 ^ Int.toNat 1) - lo) * n).toNat)) ((lo + hi).fdiv (2 ^ Int.toNat 1)) hi
        (innerF n f (Builtin.bitXor x (x.fdiv (2 ^ (((lo + hi).fdiv (2 ^ Int.toNat 1) - lo) * n).toNat) * 2 ^ (((lo + hi).fdiv (2 ^ Int.toNat 1) - lo) * n).toNat)) lo ((lo + hi).fdiv (2 ^ Int.toNat 1)) ds)
theorem innerF_len (n : Int) : ∀ (f : Nat) (x lo hi : Int) (ds : List Int), (innerF n f x lo hi ds).length = ds.length
  | 0, _, _, _, _ => rfl
  | f + 1, x, lo, hi, ds => by
    rw [innerF]
    split
    · exact List.length_set
    · rw [innerF_len n f, innerF_len n f]
abbrev visI (f c cA cI cN D : Addr) (fo oc oA oI oN : Obj) (vs : List Value) (k : Nat) : List (Addr × Obj) := [(D, listOf vs.toArray k), (f, fo), (c, oc), (cA, oA), (cI, oI), (cN, oN)]
noncomputable def RIn (f c cA cI cN D : Addr) (fo oc oA oI oN : Obj) (ds' : List Int) : Addr → Value → List (Addr × Obj) → Prop := fun _ v vis' => v = .none ∧ ∃ vs' k', IntsAre vs' ds' ∧ vis' = visI f c cA cI cN D fo oc oA oI oN vs' k'
noncomputable def InSpec (w : World) (p : Program) (loose : List Str) (mean : ExcName → Option Value) (mg mb : Str → Option Value) (n : Int) (f c cA cI cN D : Addr) (fo oc oA oI oN : Obj) (d : Nat) : Prop :=
  ∀ (x lo hi : Int) (tx tl th : Tok) (vs : List Value) (ds : List Int) (k : Nat), IntsAre vs ds → 0 ≤ x → x < 65536 → 0 ≤ lo → lo < hi → hi ≤ (ds.length : Int) → hi - lo ≤ (d : Int) → ds.length ≤ 16 →
    Cl w p loose mean mg mb f (2 * d + 2) (20 * d + 20) [.int x tx, .int lo tl, .int hi th] (visI f c cA cI cN D fo oc oA oI oN vs k)
      (RIn f c cA cI cN D fo oc oA oI oN (innerF n d x lo hi ds))
theorem inSpec_zero {n : Int} {f c cA cI cN D : Addr} {fo oc oA oI oN : Obj} : InSpec w p loose mean mg mb n f c cA cI cN D fo oc oA oI oN 0 := fun x lo hi _ _ _ _ _ _ _ _ _ _ h _ hd _ => absurd h (by omega)

end
section
noncomputable def innerParts (P : Params) : Option (Arguments × List Stmt × Scope) := match (hd.heap_39 P).lookup 66 with
  | some ⟨_, _, .func fd, _⟩ => (match fd.body with
    | .stmts (_ :: .FunctionDef _ ps b _ _ _ sc _ _ _ :: _) => some (ps, b, sc)
    | _ => none)
  | _ => none
theorem rows_a13 : True := by
  k_with_none
  k_with "m:cl enter" => (((refine wpAny_call ?_); k_dflt (refine' code_defV ?k1 ?k2 ?k3 ?k4 ?kO ?k5 ?kA ?kF ?kK ?k6 ?k7 ?k8 ?k9 ?kB ?_ ?c2 ?c3 ?c4 ?c5; (case kA => exact rfl); (case kF => exact rfl); (case kK => assumption); (case k1 => k_asm); (case k2 => k_asm); (case k3 => k_asm); (case k4 => k_asm); (case kO => k_asm); (case k5 => k_asm); (case k6 => k_is); (case k7 => k_is); (case k8 => ktr_room); (case k9 => first | exact BindsTo.of_eq rfl | exact binds_K (by k_in) rfl (by k_is) rfl rfl rfl | (refine' kp_binds ?kx ?ke; (case kx => k_in); (case ke => exact fun _ => rfl))); (case c5 => decide); (case kB => exact locs rfl); (case c2 => exact rfl); (case c3 => exact rfl); (case c4 => exact rfl); k_whole; intro g' L' h' FG' F' N' B' X' T' l1 lim'; (try k_lt l1); (try dsimp only); (try k_fold))))
  k_with "m:cl enterC" => (((refine wpAny_call ?_); k_dflt (refine' code_defCV ?k1 ?k2 ?k3 ?k4 ?kO ?k5 ?kA ?kF ?kK ?k6 ?k7 ?k8 ?k9 ?kB ?kD ?_ ?c2 ?c3 ?c4; (case kA => exact rfl); (case kF => exact rfl); (case kK => assumption); (case k1 => k_asm); (case k2 => k_asm); (case k3 => k_asm); (case k4 => k_asm); (case kO => k_asm); (case k5 => k_asm); (case k6 => k_is); (case k7 => k_is); (case k8 => ktr_room); (case k9 => first | exact BindsTo.of_eq rfl | exact binds_K (by k_in) rfl (by k_is) rfl rfl rfl | (refine' kp_binds ?kx ?ke; (case kx => k_in); (case ke => exact fun _ => rfl))); (case kB => exact rfl); (case kD => decide +kernel); (case c2 => exact rfl); (case c3 => exact rfl); (case c4 => exact rfl); k_whole; intro g' L' h' tk' cells' FG' F' N' Y' B' X' T' l1 lim'; (try k_lt l1); k_cells Y'; (try simp only [List.cons_append, List.nil_append] at N'); (try dsimp only); (try k_fold))))
  k_with "m:cl sub" => (first | exact fun _ h => h | exact List.forall_mem_nil _ | kcj_all)
  k_with "m:cl end" => ((refine' cl_end ?h ?N ?F ?N2 ?_ ?_; (case h => assumption); (case N => assumption); (case F => k_asm); (case N2 => k_asm); rotate_left))
  k_with "m:cl int" => ((refine' cl_end ?h ?N ?F ?N2 ?hn (r_int ?_); (case h => assumption); (case N => assumption); (case F => k_asm); (case N2 => k_asm); (case hn => walk_at "cl sub")))
  k_with "m:cl str" => ((refine' cl_end ?h ?N ?F ?N2 ?hn (r_str ?_); (case h => assumption); (case N => assumption); (case F => k_asm); (case N2 => k_asm); (case hn => walk_at "cl sub")))
  k_with "m:cl bool" => ((refine' cl_end ?h ?N ?F ?N2 ?hn (r_bool ?_); (case h => assumption); (case N => assumption); (case F => k_asm); (case N2 => k_asm); (case hn => walk_at "cl sub")))
  k_with "m:call builtin:list.append" => ((k_here; (with_reducible show wpAny _ _ (call (Value.builtin _) [Value.ref _, _]) _ _ _); k_dflt (refine' append_K ?k1 ?k2 ?k3 ?_ ?z; (case k1 => k_asm); (case k2 => k_asm); (case k3 => k_upd); (case z => exact Nat.le_of_ble_eq_true rfl); k_whole); intro h' F' N'; (try k_sweep)))
  k_with "m:call ref" => ((k_here; k_dflt (k_extra "call ref")))
  k_with "m:cl off1" => (first | exact List.forall_mem_nil _ | exact OwnOff.ne (by assumption) (by simp) | (refine List.forall_mem_cons.mpr ⟨?_, ?_⟩ <;> walk_at "cl off1") | k_ne)
  k_with "m:cl off" => ((unfold Off; walk_at "cl off1"))
  k_with "m:cl mem" => (first | exact List.forall_mem_nil _ | (refine List.forall_mem_cons.mpr ⟨by k_mem, ?_⟩; walk_at "cl mem") | (intro p9 h9; kst_mem))
  k_with "m:cl all" => (((try simp only [List.cons_append, List.nil_append, List.append_nil]); walk_at "cl mem"))
  k_with "m:execs cons" => ((k_here; (with_reducible refine tok_add ?_); intro tk; (try dsimp only); (try k_fold)))
  k_with "m:storeName" => ((k_here; first | ((with_reducible refine tok_sp ?_); intro t9) | ((with_reducible refine tok_st ?_); intro t9)))
  k_with "m:cl enterN" => (((refine wpAny_call ?_); k_dflt (refine' code_nestV ?k1 ?k2 ?k3 ?k4 ?kO ?k5 ?kA ?kF ?kK ?k6 (codeRec_news ?k4 (List.mem_append_left _ ?kM) ?hoc ?hq) ?k8 ?k9 ?kB ?_ ?c2 ?c3 ?c4 ?c5; (case kA => exact rfl); (case kF => exact rfl); (case kK => assumption); (case k1 => k_asm); (case k2 => k_asm); (case k3 => k_asm); (case k4 => k_asm); (case kO => k_asm); (case k5 => k_asm); (case k6 => k_mem); (case kM => k_mem); (case hoc => assumption); (case hq => assumption); (case k8 => ktr_room); (case k9 => exact BindsTo.of_eq rfl); (case c5 => decide); (case kB => exact locs rfl); (case c2 => exact rfl); (case c3 => exact rfl); (case c4 => exact rfl); k_whole; intro g' L' h' FG' F' N' B' X' T' l1 lim'; (try k_lt l1); (try dsimp only); (try k_fold))))
  trivial
theorem mid_f {lo hi : Int} (h : lo < hi) : lo ≤ (lo + hi).fdiv (2 ^ Int.toNat 1) ∧ (lo + hi).fdiv (2 ^ Int.toNat 1) < hi ∧ (lo + 1 ≠ hi → lo < (lo + hi).fdiv (2 ^ Int.toNat 1)) := by
  have e : (2 : Int) ^ Int.toNat 1 = 2 := rfl
  rw [e, Int.fdiv_eq_ediv_of_nonneg _ (by decide)]
  refine ⟨by omega, by omega, fun _ => by omega⟩
theorem prod_in {a n : Int} (h0 : 0 ≤ a) (h1 : a ≤ 16) (hn : 1 ≤ n ∧ n ≤ 9) : 0 ≤ a * n ∧ a * n ≤ 144 := by
  refine ⟨Int.mul_nonneg h0 (by omega), ?_⟩
  have : a * n ≤ 16 * 9 := Int.mul_le_mul h1 hn.2 (by omega) (by omega)
  omega
theorem up_in {x : Int} (k : Nat) (h0 : 0 ≤ x) : 0 ≤ x.fdiv (2 ^ k) ∧ x.fdiv (2 ^ k) ≤ x := by
  have p : (0 : Int) ≤ 2 ^ k := Int.le_of_lt (Int.pow_pos (by decide))
  rw [Int.fdiv_eq_ediv_of_nonneg _ p]
  exact ⟨Int.ediv_nonneg h0 p, Int.ediv_le_self _ h0⟩
theorem nat_and_high (x k : Nat) : x &&& (x / 2 ^ k * 2 ^ k) = x / 2 ^ k * 2 ^ k := by
  apply Nat.eq_of_testBit_eq
  intro i
  rw [Nat.testBit_and, Nat.mul_comm, Nat.testBit_two_pow_mul, Nat.testBit_div_two_pow]
  by_cases h : k ≤ i
  · have e : i - k + k = i := by omega
    simp [h, e]
  · simp [h]
theorem low_in {x : Int} (k : Nat) (h0 : 0 ≤ x) : 0 ≤ Builtin.bitXor x (x.fdiv (2 ^ k) * 2 ^ k) ∧ Builtin.bitXor x (x.fdiv (2 ^ k) * 2 ^ k) ≤ x := by
  obtain ⟨a, rfl⟩ := Int.eq_ofNat_of_zero_le h0
  have p : (0 : Int) ≤ 2 ^ k := Int.le_of_lt (Int.pow_pos (by decide))
  have e : ((a : Int)).fdiv (2 ^ k) * 2 ^ k = ((a / 2 ^ k * 2 ^ k : Nat) : Int) := by
    rw [Int.fdiv_eq_ediv_of_nonneg _ p]; simp
  have e2 : Builtin.bitAnd (a : Int) ((a / 2 ^ k * 2 ^ k : Nat) : Int) = ((a / 2 ^ k * 2 ^ k : Nat) : Int) := by
    rw [bitAnd_pp (by omega) (by omega), Int.toNat_natCast, Int.toNat_natCast, nat_and_high]
  rw [e, bitXor_and, e2]
  have := Nat.div_mul_le_self a (2 ^ k)
  omega
theorem rows_a14 : True := by
  k_with_none
  k_with "m:cl enter" => (((refine wpAny_call ?_); k_dflt (refine' code_defV ?k1 ?k2 ?k3 ?k4 ?kO ?k5 ?kA ?kF ?kK ?k6 ?k7 ?k8 ?k9 ?kB ?_ ?c2 ?c3 ?c4 ?c5; (case kA => exact rfl); (case kF => exact rfl); (case kK => assumption); (case k1 => k_asm); (case k2 => k_asm); (case k3 => k_asm); (case k4 => k_asm); (case kO => k_asm); (case k5 => k_asm); (case k6 => k_is); (case k7 => k_is); (case k8 => ktr_room); (case k9 => first | exact BindsTo.of_eq rfl | exact binds_K (by k_in) rfl (by k_is) rfl rfl rfl | (refine' kp_binds ?kx ?ke; (case kx => k_in); (case ke => exact fun _ => rfl))); (case c5 => decide); (case kB => exact locs rfl); (case c2 => exact rfl); (case c3 => exact rfl); (case c4 => exact rfl); k_whole; intro g' L' h' FG' F' N' B' X' T' l1 lim'; (try k_lt l1); (try dsimp only); (try k_fold))))
  k_with "m:cl enterC" => (((refine wpAny_call ?_); k_dflt (refine' code_defCV ?k1 ?k2 ?k3 ?k4 ?kO ?k5 ?kA ?kF ?kK ?k6 ?k7 ?k8 ?k9 ?kB ?kD ?_ ?c2 ?c3 ?c4; (case kA => exact rfl); (case kF => exact rfl); (case kK => assumption); (case k1 => k_asm); (case k2 => k_asm); (case k3 => k_asm); (case k4 => k_asm); (case kO => k_asm); (case k5 => k_asm); (case k6 => k_is); (case k7 => k_is); (case k8 => ktr_room); (case k9 => first | exact BindsTo.of_eq rfl | exact binds_K (by k_in) rfl (by k_is) rfl rfl rfl | (refine' kp_binds ?kx ?ke; (case kx => k_in); (case ke => exact fun _ => rfl))); (case kB => exact rfl); (case kD => decide +kernel); (case c2 => exact rfl); (case c3 => exact rfl); (case c4 => exact rfl); k_whole; intro g' L' h' tk' cells' FG' F' N' Y' B' X' T' l1 lim'; (try k_lt l1); k_cells Y'; (try simp only [List.cons_append, List.nil_append] at N'); (try dsimp only); (try k_fold))))
  k_with "m:cl sub" => (first | exact fun _ h => h | exact List.forall_mem_nil _ | kcj_all)
  k_with "m:cl end" => ((refine' cl_end ?h ?N ?F ?N2 ?_ ?_; (case h => assumption); (case N => assumption); (case F => k_asm); (case N2 => k_asm); rotate_left))
  k_with "m:cl int" => ((refine' cl_end ?h ?N ?F ?N2 ?hn (r_int ?_); (case h => assumption); (case N => assumption); (case F => k_asm); (case N2 => k_asm); (case hn => walk_at "cl sub")))
  k_with "m:cl str" => ((refine' cl_end ?h ?N ?F ?N2 ?hn (r_str ?_); (case h => assumption); (case N => assumption); (case F => k_asm); (case N2 => k_asm); (case hn => walk_at "cl sub")))
  k_with "m:cl bool" => ((refine' cl_end ?h ?N ?F ?N2 ?hn (r_bool ?_); (case h => assumption); (case N => assumption); (case F => k_asm); (case N2 => k_asm); (case hn => walk_at "cl sub")))
  k_with "m:call builtin:list.append" => ((k_here; (with_reducible show wpAny _ _ (call (Value.builtin _) [Value.ref _, _]) _ _ _); k_dflt (refine' append_K ?k1 ?k2 ?k3 ?_ ?z; (case k1 => k_asm); (case k2 => k_asm); (case k3 => k_upd); (case z => exact Nat.le_of_ble_eq_true rfl); k_whole); intro h' F' N'; (try k_sweep)))
  k_with "m:call ref" => ((k_here; k_dflt (k_extra "call ref")))
  k_with "m:cl off1" => (first | exact List.forall_mem_nil _ | exact OwnOff.ne (by assumption) (by simp) | (refine List.forall_mem_cons.mpr ⟨?_, ?_⟩ <;> walk_at "cl off1") | k_ne)
  k_with "m:cl off" => ((unfold Off; walk_at "cl off1"))
  k_with "m:cl mem" => (first | exact List.forall_mem_nil _ | (refine List.forall_mem_cons.mpr ⟨by k_mem, ?_⟩; walk_at "cl mem") | (intro p9 h9; kst_mem))
  k_with "m:cl all" => (((try simp only [List.cons_append, List.nil_append, List.append_nil]); walk_at "cl mem"))
  k_with "m:execs cons" => ((k_here; (with_reducible refine tok_add ?_); intro tk; (try dsimp only); (try k_fold)))
  k_with "m:storeName" => ((k_here; first | ((with_reducible refine tok_sp ?_); intro t9) | ((with_reducible refine tok_st ?_); intro t9)))
  k_with "m:cl enterN" => (((refine wpAny_call ?_); k_dflt (refine' code_nestV ?k1 ?k2 ?k3 ?k4 ?kO ?k5 ?kA ?kF ?kK ?k6 (codeRec_news ?k4 (List.mem_append_left _ ?kM) ?hoc ?hq) ?k8 ?k9 ?kB ?_ ?c2 ?c3 ?c4 ?c5; (case kA => exact rfl); (case kF => exact rfl); (case kK => assumption); (case k1 => k_asm); (case k2 => k_asm); (case k3 => k_asm); (case k4 => k_asm); (case kO => k_asm); (case k5 => k_asm); (case k6 => k_mem); (case kM => k_mem); (case hoc => assumption); (case hq => assumption); (case k8 => ktr_room); (case k9 => exact BindsTo.of_eq rfl); (case c5 => decide); (case kB => exact locs rfl); (case c2 => exact rfl); (case c3 => exact rfl); (case c4 => exact rfl); k_whole; intro g' L' h' FG' F' N' B' X' T' l1 lim'; (try k_lt l1); (try dsimp only); (try k_fold))))
  k_with "m:setItem ref int" => ((k_here; (with_reducible show wpAny _ _ (setItem (Value.ref _) (Value.int _ _) (Value.int _ _)) _ _ _); k_dflt (refine' ksa_set ?k1 ?k2 ?k3 ?k4 ?k5 ?k6 ?k7 ?_; (case k1 => k_asm); (case k2 => k_asm); (case k3 => k_upd); (case k4 => with_reducible assumption); (case k5 => omega); (case k6 => omega); (case k7 => omega); k_whole); intro h' F' N' hi' hl' hs'))
  k_with "m:binaryOp LShift int int" => ((k_here; (refine' lshift_int_small ?a ?b ?c ?_; (case a => omega); (case b => omega); (case c => omega))))
  k_with "m:in all" => (((simp only [List.append_nil]); (refine List.forall_mem_cons.mpr ⟨by k_mem, ?_⟩); (refine List.forall_mem_cons.mpr ⟨by k_mem, ?_⟩); (refine List.forall_mem_cons.mpr ⟨by k_mem, ?_⟩); (refine List.forall_mem_cons.mpr ⟨by k_mem, ?_⟩); (refine List.forall_mem_cons.mpr ⟨by k_mem, ?_⟩); (refine List.forall_mem_cons.mpr ⟨by k_mem, ?_⟩); exact List.forall_mem_nil _))
  k_with "m:call ref" => ((k_here; (rename InSpec _ _ _ _ _ _ _ _ _ _ _ _ _ _ _ _ _ _ _ => IH9); k_dflt (refine' cl_use (rest := []) (IH9 _ _ _ _ _ _ _ _ _ ?hv ?h0 ?h1 ?h2 ?h3 ?h4 ?h5 ?h6) ?k1 ?kC ?k2 ?k3 ?k4 ?ha ?kO ?k5 ?kK ?kd ?ku ?_; (case k1 => k_asm); (case kC => exact And.intro (by assumption) (by assumption)); (case k2 => k_asm); (case k3 => k_asm); (case k4 => k_asm); (case ha => walk_at "in all"); (case hv => assumption); (case h0 => omega); (case h1 => omega); (case h2 => omega); (case h3 => omega); (case h4 => (first | omega | (rw [innerF_len]; omega))); (case h5 => omega); (case h6 => (first | omega | (rw [innerF_len]; omega))); (case kO => exact off_nil); (case k5 => k_asm); (case kK => first | exact rfl | assumption); (case kd => ktr_room); (case ku => ktr_units)); intro lim9 v9 n9 h9 tk9 lt9 R9 F9 N9; (obtain ⟨e9, vs9, k9, I9, e9'⟩ := R9); subst e9; subst e9'; (try simp only [List.append_nil] at N9); (try dsimp only); (try k_fold)))
  trivial
set_option maxHeartbeats 2000000 in
theorem in_step {params : Arguments} {body : List Stmt} {scope : Scope} (hp : innerParts w.params = some (params, body, scope)) {n : Int} (hn : 1 ≤ n ∧ n ≤ 9) {qual : Str} {f c cA cI cN D : Addr} {oc oA oI oN : Obj} {ocv : Array Value} {t tN : Tok} {doc pm ctv : Value}
    (hoc : oc.data = .fields ocv) (hq : ocv[1]? = some (.str qual t)) (hA : oA.data = .cell (some (.ref D))) (hI : oI.data = .cell (some (.ref f))) (hN : oN.data = .cell (some (.int n tN))) (hne : @Ne Nat f D ∧ @Ne Nat c D ∧ @Ne Nat cA D ∧ @Ne Nat cI D ∧ @Ne Nat cN D) (d : Nat)
    (IH : InSpec w p loose mean mg mb n f c cA cI cN D (fnMade "inner" qual params body scope [("n", cN), ("inner", cI), ("a_digits", cA)] doc pm c ctv) oc oA oI oN d) :
    InSpec w p loose mean mg mb n f c cA cI cN D (fnMade "inner" qual params body scope [("n", cN), ("inner", cI), ("a_digits", cA)] doc pm c ctv) oc oA oI oN (d + 1) := by
  have e : innerParts w.params = some (_, _, _) := rfl
  rw [e] at hp
  injection hp with hp
  injection hp with h1 hp
  injection hp with h2 h3
  subst h1 h2 h3
  intro x lo hi tx tl th vs ds k hv hx0 hx1 hl0 hl1 hl2 hd9 hl16
  unfold Cl
  k_fill
  intro rest dp un gd cn cs a ccd cl outer A₀ base h₀ L m s Q E B CD F X N O T hk hd hu hret
  obtain ⟨C1, C2⟩ := CD
  have hM := mid_f hl1
  have hS := prod_in (a := (lo + hi).fdiv (2 ^ Int.toNat 1) - lo) (n := n) (by omega) (by omega) hn
  have hU := up_in (((lo + hi).fdiv (2 ^ Int.toNat 1) - lo) * n).toNat hx0
  have hL := low_in (((lo + hi).fdiv (2 ^ Int.toNat 1) - lo) * n).toNat hx0
  walk_at "cl enterN"
  k_steps
  · refine' cl_end hret N (by k_asm) (by k_asm) ?hn1 ⟨rfl, _, _, ?hi1, rfl⟩
    case hi1 => rw [innerF, if_pos (by assumption)]; assumption
    case hn1 => kcj_all
  · refine' cl_end hret N (by k_asm) (by k_asm) ?hn2 ⟨rfl, _, _, ?hi2, rfl⟩
    case hi2 => rw [innerF, if_neg (by assumption)]; assumption
    case hn2 => kcj_all

end
section
theorem rows_a15 : True := by
  k_with_none
  k_with "m:cl enter" => (((refine wpAny_call ?_); k_dflt (refine' code_defV ?k1 ?k2 ?k3 ?k4 ?kO ?k5 ?kA ?kF ?kK ?k6 ?k7 ?k8 ?k9 ?kB ?_ ?c2 ?c3 ?c4 ?c5; (case kA => exact rfl); (case kF => exact rfl); (case kK => assumption); (case k1 => k_asm); (case k2 => k_asm); (case k3 => k_asm); (case k4 => k_asm); (case kO => k_asm); (case k5 => k_asm); (case k6 => k_is); (case k7 => k_is); (case k8 => ktr_room); (case k9 => first | exact BindsTo.of_eq rfl | exact binds_K (by k_in) rfl (by k_is) rfl rfl rfl | (refine' kp_binds ?kx ?ke; (case kx => k_in); (case ke => exact fun _ => rfl))); (case c5 => decide); (case kB => exact locs rfl); (case c2 => exact rfl); (case c3 => exact rfl); (case c4 => exact rfl); k_whole; intro g' L' h' FG' F' N' B' X' T' l1 lim'; (try k_lt l1); (try dsimp only); (try k_fold))))
  k_with "m:cl enterC" => (((refine wpAny_call ?_); k_dflt (refine' code_defCV ?k1 ?k2 ?k3 ?k4 ?kO ?k5 ?kA ?kF ?kK ?k6 ?k7 ?k8 ?k9 ?kB ?kD ?_ ?c2 ?c3 ?c4; (case kA => exact rfl); (case kF => exact rfl); (case kK => assumption); (case k1 => k_asm); (case k2 => k_asm); (case k3 => k_asm); (case k4 => k_asm); (case kO => k_asm); (case k5 => k_asm); (case k6 => k_is); (case k7 => k_is); (case k8 => ktr_room); (case k9 => first | exact BindsTo.of_eq rfl | exact binds_K (by k_in) rfl (by k_is) rfl rfl rfl | (refine' kp_binds ?kx ?ke; (case kx => k_in); (case ke => exact fun _ => rfl))); (case kB => exact rfl); (case kD => decide +kernel); (case c2 => exact rfl); (case c3 => exact rfl); (case c4 => exact rfl); k_whole; intro g' L' h' tk' cells' FG' F' N' Y' B' X' T' l1 lim'; (try k_lt l1); k_cells Y'; (try simp only [List.cons_append, List.nil_append] at N'); (try dsimp only); (try k_fold))))
  k_with "m:cl sub" => (first | exact fun _ h => h | exact List.forall_mem_nil _ | kcj_all)
  k_with "m:cl end" => ((refine' cl_end ?h ?N ?F ?N2 ?_ ?_; (case h => assumption); (case N => assumption); (case F => k_asm); (case N2 => k_asm); rotate_left))
  k_with "m:cl int" => ((refine' cl_end ?h ?N ?F ?N2 ?hn (r_int ?_); (case h => assumption); (case N => assumption); (case F => k_asm); (case N2 => k_asm); (case hn => walk_at "cl sub")))
  k_with "m:cl str" => ((refine' cl_end ?h ?N ?F ?N2 ?hn (r_str ?_); (case h => assumption); (case N => assumption); (case F => k_asm); (case N2 => k_asm); (case hn => walk_at "cl sub")))
  k_with "m:cl bool" => ((refine' cl_end ?h ?N ?F ?N2 ?hn (r_bool ?_); (case h => assumption); (case N => assumption); (case F => k_asm); (case N2 => k_asm); (case hn => walk_at "cl sub")))
  k_with "m:call builtin:list.append" => ((k_here; (with_reducible show wpAny _ _ (call (Value.builtin _) [Value.ref _, _]) _ _ _); k_dflt (refine' append_K ?k1 ?k2 ?k3 ?_ ?z; (case k1 => k_asm); (case k2 => k_asm); (case k3 => k_upd); (case z => exact Nat.le_of_ble_eq_true rfl); k_whole); intro h' F' N'; (try k_sweep)))
  k_with "m:call ref" => ((k_here; k_dflt (k_extra "call ref")))
  k_with "m:cl off1" => (first | exact List.forall_mem_nil _ | exact OwnOff.ne (by assumption) (by simp) | (refine List.forall_mem_cons.mpr ⟨?_, ?_⟩ <;> walk_at "cl off1") | k_ne)
  k_with "m:cl off" => ((unfold Off; walk_at "cl off1"))
  k_with "m:cl mem" => (first | exact List.forall_mem_nil _ | (refine List.forall_mem_cons.mpr ⟨by k_mem, ?_⟩; walk_at "cl mem") | (intro p9 h9; kst_mem))
  k_with "m:cl all" => (((try simp only [List.cons_append, List.nil_append, List.append_nil]); walk_at "cl mem"))
  k_with "m:execs cons" => ((k_here; (with_reducible refine tok_add ?_); intro tk; (try dsimp only); (try k_fold)))
  k_with "m:storeName" => ((k_here; first | ((with_reducible refine tok_sp ?_); intro t9) | ((with_reducible refine tok_st ?_); intro t9)))
  trivial
theorem in_all {params : Arguments} {body : List Stmt} {scope : Scope} (hp : innerParts w.params = some (params, body, scope)) {n : Int} (hn : 1 ≤ n ∧ n ≤ 9) {qual : Str} {f c cA cI cN D : Addr} {oc oA oI oN : Obj} {ocv : Array Value} {t tN : Tok} {doc pm ctv : Value}
    (hoc : oc.data = .fields ocv) (hq : ocv[1]? = some (.str qual t)) (hA : oA.data = .cell (some (.ref D))) (hI : oI.data = .cell (some (.ref f))) (hN : oN.data = .cell (some (.int n tN))) (hne : @Ne Nat f D ∧ @Ne Nat c D ∧ @Ne Nat cA D ∧ @Ne Nat cI D ∧ @Ne Nat cN D) :
    ∀ d, InSpec w p loose mean mg mb n f c cA cI cN D (fnMade "inner" qual params body scope [("n", cN), ("inner", cI), ("a_digits", cA)] doc pm c ctv) oc oA oI oN d
  | 0 => inSpec_zero
  | d + 1 => in_step hp hn hoc hq hA hI hN hne d (in_all hp hn hoc hq hA hI hN hne d)
theorem rhs_norm2 {M : Model} {A : Around} {Q E : Value → Shared → Prop} {s : Shared} {op : Operator} {l : Value} {y y' : Int} {ty : Tok} (e : y = y') (h : wpAny M A (binaryOp op l (.int y' ty)) Q E s) : wpAny M A (binaryOp op l (.int y ty)) Q E s := e ▸ h
noncomputable def rep0 (k : Nat) : List Int := (List.replicate (k : Int).toNat [0]).flatten
theorem rep0_len (k : Nat) : (rep0 k).length = k := by unfold rep0; rw [KM.len_rep]; simp
/-- the digits of n bits that _int2digits gives of a, k of them -/
noncomputable def digF (a n : Int) (k : Nat) : List Int := if a ≠ 0 then innerF n 16 a 0 k (rep0 k) else rep0 k
theorem digF_t {a n : Int} {k : Nat} (h : a ≠ 0) : digF a n k = innerF n 16 a 0 k (rep0 k) := if_pos h
theorem digF_f {a n : Int} {k : Nat} (h : a = 0) : digF a n k = rep0 k := if_neg (fun q => q h)
theorem digF_len (a n : Int) (k : Nat) : (digF a n k).length = k := by
  unfold digF
  split
  · rw [innerF_len, rep0_len]
  · exact rep0_len k
/-- the code of the inner def stands -/
noncomputable def CodeOk (oc : Obj) : Prop := ∃ ocv t, oc.data = .fields ocv ∧ ocv[1]? = some (.str "_int2digits.<locals>.inner" t)
abbrev tab1 (c : Addr) : Obj := tabObj (#[] ++ #[rawInt ((45 : Nat) : Int), rawInt ((4 : Nat) : Int), .ref c])
noncomputable def RDig1 (ds : List Int) : Addr → Value → List (Addr × Obj) → Prop := fun lim v vis' => ∃ D vs j c oc, v = .ref D ∧ IntsAre vs ds ∧ @LE.le Nat _ lim D ∧ @LT.lt Nat _ D c ∧ CodeOk oc ∧ vis' = [(D, listOf vs.toArray j), (61, tab1 c), (c, oc)]
noncomputable def RDig2 (c : Addr) (oc : Obj) (ds : List Int) : Addr → Value → List (Addr × Obj) → Prop := fun lim v vis' => ∃ D vs j, v = .ref D ∧ IntsAre vs ds ∧ @LE.le Nat _ lim D ∧ vis' = [(D, listOf vs.toArray j), (61, tab1 c), (c, oc)]
theorem rows_a16 : True := by
  k_with_none
  k_with "m:cl enter" => (((refine wpAny_call ?_); k_dflt (refine' code_defV ?k1 ?k2 ?k3 ?k4 ?kO ?k5 ?kA ?kF ?kK ?k6 ?k7 ?k8 ?k9 ?kB ?_ ?c2 ?c3 ?c4 ?c5; (case kA => exact rfl); (case kF => exact rfl); (case kK => assumption); (case k1 => k_asm); (case k2 => k_asm); (case k3 => k_asm); (case k4 => k_asm); (case kO => k_asm); (case k5 => k_asm); (case k6 => k_is); (case k7 => k_is); (case k8 => ktr_room); (case k9 => first | exact BindsTo.of_eq rfl | exact binds_K (by k_in) rfl (by k_is) rfl rfl rfl | (refine' kp_binds ?kx ?ke; (case kx => k_in); (case ke => exact fun _ => rfl))); (case c5 => decide); (case kB => exact locs rfl); (case c2 => exact rfl); (case c3 => exact rfl); (case c4 => exact rfl); k_whole; intro g' L' h' FG' F' N' B' X' T' l1 lim'; (try k_lt l1); (try dsimp only); (try k_fold))))
  k_with "m:cl enterC" => (((refine wpAny_call ?_); k_dflt (refine' code_defCV ?k1 ?k2 ?k3 ?k4 ?kO ?k5 ?kA ?kF ?kK ?k6 ?k7 ?k8 ?k9 ?kB ?kD ?_ ?c2 ?c3 ?c4; (case kA => exact rfl); (case kF => exact rfl); (case kK => assumption); (case k1 => k_asm); (case k2 => k_asm); (case k3 => k_asm); (case k4 => k_asm); (case kO => k_asm); (case k5 => k_asm); (case k6 => k_is); (case k7 => k_is); (case k8 => ktr_room); (case k9 => first | exact BindsTo.of_eq rfl | exact binds_K (by k_in) rfl (by k_is) rfl rfl rfl | (refine' kp_binds ?kx ?ke; (case kx => k_in); (case ke => exact fun _ => rfl))); (case kB => exact rfl); (case kD => decide +kernel); (case c2 => exact rfl); (case c3 => exact rfl); (case c4 => exact rfl); k_whole; intro g' L' h' tk' cells' FG' F' N' Y' B' X' T' l1 lim'; (try k_lt l1); k_cells Y'; (try simp only [List.cons_append, List.nil_append] at N'); (try dsimp only); (try k_fold))))
  k_with "m:cl sub" => (first | exact fun _ h => h | exact List.forall_mem_nil _ | kcj_all)
  k_with "m:cl end" => ((refine' cl_end ?h ?N ?F ?N2 ?_ ?_; (case h => assumption); (case N => assumption); (case F => k_asm); (case N2 => k_asm); rotate_left))
  k_with "m:cl int" => ((refine' cl_end ?h ?N ?F ?N2 ?hn (r_int ?_); (case h => assumption); (case N => assumption); (case F => k_asm); (case N2 => k_asm); (case hn => walk_at "cl sub")))
  k_with "m:cl str" => ((refine' cl_end ?h ?N ?F ?N2 ?hn (r_str ?_); (case h => assumption); (case N => assumption); (case F => k_asm); (case N2 => k_asm); (case hn => walk_at "cl sub")))
  k_with "m:cl bool" => ((refine' cl_end ?h ?N ?F ?N2 ?hn (r_bool ?_); (case h => assumption); (case N => assumption); (case F => k_asm); (case N2 => k_asm); (case hn => walk_at "cl sub")))
  k_with "m:call builtin:list.append" => ((k_here; (with_reducible show wpAny _ _ (call (Value.builtin _) [Value.ref _, _]) _ _ _); k_dflt (refine' append_K ?k1 ?k2 ?k3 ?_ ?z; (case k1 => k_asm); (case k2 => k_asm); (case k3 => k_upd); (case z => exact Nat.le_of_ble_eq_true rfl); k_whole); intro h' F' N'; (try k_sweep)))
  k_with "m:call ref" => ((k_here; k_dflt (k_extra "call ref")))
  k_with "m:cl off1" => (first | exact List.forall_mem_nil _ | exact OwnOff.ne (by assumption) (by simp) | (refine List.forall_mem_cons.mpr ⟨?_, ?_⟩ <;> walk_at "cl off1") | k_ne)
  k_with "m:cl off" => ((unfold Off; walk_at "cl off1"))
  k_with "m:cl mem" => (first | exact List.forall_mem_nil _ | (refine List.forall_mem_cons.mpr ⟨by k_mem, ?_⟩; walk_at "cl mem") | (intro p9 h9; kst_mem))
  k_with "m:cl all" => (((try simp only [List.cons_append, List.nil_append, List.append_nil]); walk_at "cl mem"))
  k_with "m:execs cons" => ((k_here; (with_reducible refine tok_add ?_); intro tk; (try dsimp only); (try k_fold)))
  k_with "m:storeName" => ((k_here; first | ((with_reducible refine tok_sp ?_); intro t9) | ((with_reducible refine tok_st ?_); intro t9)))
  k_with "m:binaryOp Mult ref int" => ((k_here; (with_reducible show wpAny _ _ (binaryOp Operator.Mult (Value.ref _) (Value.int _ _)) _ _ _); (refine rhs_norm2 (by assumption) ?_); (refine KM.mul (by k_asm) (by k_asm) (by is_list) (by l_ints) (by omega) (by omega) (by (simp only [List.length_cons, List.length_nil]; omega)) ?_); (intro D' h' F' N' l1 i1 n1 s1 e1 e2 e3); (try k_lt l1); (try simp only [List.length_cons, List.length_nil] at e3)))
  k_with "m:in all" => (((refine List.forall_mem_cons.mpr ⟨by k_mem, ?_⟩); (refine List.forall_mem_cons.mpr ⟨by k_mem, ?_⟩); (refine List.forall_mem_cons.mpr ⟨by k_mem, ?_⟩); (refine List.forall_mem_cons.mpr ⟨by k_mem, ?_⟩); (refine List.forall_mem_cons.mpr ⟨by k_mem, ?_⟩); (refine List.forall_mem_cons.mpr ⟨by k_mem, ?_⟩); (refine List.forall_mem_cons.mpr ⟨by k_mem, ?_⟩); exact List.forall_mem_nil _))
  k_with "m:cl off" => (first | exact List.forall_mem_nil _ | (refine List.forall_mem_cons.mpr ⟨?_, ?_⟩ <;> walk_at "cl off") | k_ne)
  trivial
theorem dig_end {n a : Int} {k k' : Nat} {vs : List Value} (h : a ≠ 0) (e : k' = k) (hi : IntsAre vs (innerF n 16 a 0 k' (rep0 k))) : IntsAre vs (digF a n k) := by rw [digF_t h, ← e]; rw [← e] at hi; rw [e] at hi ⊢; exact hi
theorem rows_a17 : True := by
  k_with_none
  k_with "m:cl enter" => (((refine wpAny_call ?_); k_dflt (refine' code_defV ?k1 ?k2 ?k3 ?k4 ?kO ?k5 ?kA ?kF ?kK ?k6 ?k7 ?k8 ?k9 ?kB ?_ ?c2 ?c3 ?c4 ?c5; (case kA => exact rfl); (case kF => exact rfl); (case kK => assumption); (case k1 => k_asm); (case k2 => k_asm); (case k3 => k_asm); (case k4 => k_asm); (case kO => k_asm); (case k5 => k_asm); (case k6 => k_is); (case k7 => k_is); (case k8 => ktr_room); (case k9 => first | exact BindsTo.of_eq rfl | exact binds_K (by k_in) rfl (by k_is) rfl rfl rfl | (refine' kp_binds ?kx ?ke; (case kx => k_in); (case ke => exact fun _ => rfl))); (case c5 => decide); (case kB => exact locs rfl); (case c2 => exact rfl); (case c3 => exact rfl); (case c4 => exact rfl); k_whole; intro g' L' h' FG' F' N' B' X' T' l1 lim'; (try k_lt l1); (try dsimp only); (try k_fold))))
  k_with "m:cl enterC" => (((refine wpAny_call ?_); k_dflt (refine' code_defCV ?k1 ?k2 ?k3 ?k4 ?kO ?k5 ?kA ?kF ?kK ?k6 ?k7 ?k8 ?k9 ?kB ?kD ?_ ?c2 ?c3 ?c4; (case kA => exact rfl); (case kF => exact rfl); (case kK => assumption); (case k1 => k_asm); (case k2 => k_asm); (case k3 => k_asm); (case k4 => k_asm); (case kO => k_asm); (case k5 => k_asm); (case k6 => k_is); (case k7 => k_is); (case k8 => ktr_room); (case k9 => first | exact BindsTo.of_eq rfl | exact binds_K (by k_in) rfl (by k_is) rfl rfl rfl | (refine' kp_binds ?kx ?ke; (case kx => k_in); (case ke => exact fun _ => rfl))); (case kB => exact rfl); (case kD => decide +kernel); (case c2 => exact rfl); (case c3 => exact rfl); (case c4 => exact rfl); k_whole; intro g' L' h' tk' cells' FG' F' N' Y' B' X' T' l1 lim'; (try k_lt l1); k_cells Y'; (try simp only [List.cons_append, List.nil_append] at N'); (try dsimp only); (try k_fold))))
  k_with "m:cl sub" => (first | exact fun _ h => h | exact List.forall_mem_nil _ | kcj_all)
  k_with "m:cl end" => ((refine' cl_end ?h ?N ?F ?N2 ?_ ?_; (case h => assumption); (case N => assumption); (case F => k_asm); (case N2 => k_asm); rotate_left))
  k_with "m:cl int" => ((refine' cl_end ?h ?N ?F ?N2 ?hn (r_int ?_); (case h => assumption); (case N => assumption); (case F => k_asm); (case N2 => k_asm); (case hn => walk_at "cl sub")))
  k_with "m:cl str" => ((refine' cl_end ?h ?N ?F ?N2 ?hn (r_str ?_); (case h => assumption); (case N => assumption); (case F => k_asm); (case N2 => k_asm); (case hn => walk_at "cl sub")))
  k_with "m:cl bool" => ((refine' cl_end ?h ?N ?F ?N2 ?hn (r_bool ?_); (case h => assumption); (case N => assumption); (case F => k_asm); (case N2 => k_asm); (case hn => walk_at "cl sub")))
  k_with "m:call builtin:list.append" => ((k_here; (with_reducible show wpAny _ _ (call (Value.builtin _) [Value.ref _, _]) _ _ _); k_dflt (refine' append_K ?k1 ?k2 ?k3 ?_ ?z; (case k1 => k_asm); (case k2 => k_asm); (case k3 => k_upd); (case z => exact Nat.le_of_ble_eq_true rfl); k_whole); intro h' F' N'; (try k_sweep)))
  k_with "m:call ref" => ((k_here; k_dflt (k_extra "call ref")))
  k_with "m:cl off1" => (first | exact List.forall_mem_nil _ | exact OwnOff.ne (by assumption) (by simp) | (refine List.forall_mem_cons.mpr ⟨?_, ?_⟩ <;> walk_at "cl off1") | k_ne)
  k_with "m:cl off" => ((unfold Off; walk_at "cl off1"))
  k_with "m:cl mem" => (first | exact List.forall_mem_nil _ | (refine List.forall_mem_cons.mpr ⟨by k_mem, ?_⟩; walk_at "cl mem") | (intro p9 h9; kst_mem))
  k_with "m:cl all" => (((try simp only [List.cons_append, List.nil_append, List.append_nil]); walk_at "cl mem"))
  k_with "m:execs cons" => ((k_here; (with_reducible refine tok_add ?_); intro tk; (try dsimp only); (try k_fold)))
  k_with "m:storeName" => ((k_here; first | ((with_reducible refine tok_sp ?_); intro t9) | ((with_reducible refine tok_st ?_); intro t9)))
  k_with "m:binaryOp Mult ref int" => ((k_here; (with_reducible show wpAny _ _ (binaryOp Operator.Mult (Value.ref _) (Value.int _ _)) _ _ _); (refine rhs_norm2 (by assumption) ?_); (refine KM.mul (by k_asm) (by k_asm) (by is_list) (by l_ints) (by omega) (by omega) (by (simp only [List.length_cons, List.length_nil]; omega)) ?_); (intro D' h' F' N' l1 i1 n1 s1 e1 e2 e3); (try k_lt l1); (try simp only [List.length_cons, List.length_nil] at e3)))
  k_with "m:in all" => (((refine List.forall_mem_cons.mpr ⟨by k_mem, ?_⟩); (refine List.forall_mem_cons.mpr ⟨by k_mem, ?_⟩); (refine List.forall_mem_cons.mpr ⟨by k_mem, ?_⟩); (refine List.forall_mem_cons.mpr ⟨by k_mem, ?_⟩); (refine List.forall_mem_cons.mpr ⟨by k_mem, ?_⟩); (refine List.forall_mem_cons.mpr ⟨by k_mem, ?_⟩); (refine List.forall_mem_cons.mpr ⟨by k_mem, ?_⟩); exact List.forall_mem_nil _))
  k_with "m:cl off" => (first | exact List.forall_mem_nil _ | (refine List.forall_mem_cons.mpr ⟨?_, ?_⟩ <;> walk_at "cl off") | k_ne)
  k_with "m:mem3" => (((refine List.forall_mem_cons.mpr ⟨by k_mem, ?_⟩); (refine List.forall_mem_cons.mpr ⟨by k_mem, ?_⟩); (refine List.forall_mem_cons.mpr ⟨by k_mem, ?_⟩); exact List.forall_mem_nil _))
  trivial
set_option maxHeartbeats 2000000 in
theorem digits1_cl (a n : Int) (k : Nat) (tx tn : Tok) (hx : 0 ≤ a ∧ a < 65536) (hn : 1 ≤ n ∧ n ≤ 9) (hkk : ((Builtin.Int.intBits a : Int) + n - 1).fdiv n = (k : Int)) (hk16 : k ≤ 16) (hk0 : a ≠ 0 → 0 < k) :
    Cl w p loose mean mg mb 66 40 400 [.int a tx, .int n tn] [(61, tabObj #[])] (RDig1 (digF a n k)) := by
  unfold Cl
  k_fill
  intro rest dp un gd cn cs a₀ ccd cl outer A₀ base h₀ L m s Q E B CD F X N O T hk hd hu hret
  obtain ⟨C1, C2⟩ := CD
  walk_at "cl enterC"
  k_steps
  · refine' cl_use (rest := [(61, tab1 _)]) (in_all ?hp hn ?hoc ?hq ?hA ?hI ?hN ?hne 16 _ _ _ _ _ _ (vs := (List.replicate (k : Int).toNat [Value.int 0 _]).flatten) (ds := rep0 k) _ ?hv ?h0 ?h1 ?h2 ?h3 ?h4 ?h5 ?h6) ?k1 ?kC ?k2 ?k3 ?k4 ?ha ?kO ?k5 ?kK ?kd ?ku ?_
    case k1 => k_asm
    case kC => exact And.intro (by assumption) (by assumption)
    case k2 => k_asm
    case k3 => k_asm
    case k4 => k_asm
    case ha => walk_at "in all"
    case hp => rfl
    case hoc => assumption
    case hq => assumption
    case hA => assumption
    case hI => assumption
    case hN => assumption
    case hne => omega
    case hv => assumption
    case h0 => omega
    case h1 => omega
    case h2 => omega
    case h3 => have := hk0 (by assumption); omega
    case h4 => rw [rep0_len]; omega
    case h5 => omega
    case h6 => rw [rep0_len]; omega
    case kO => unfold Off; walk_at "cl off"
    case k5 => k_asm
    case kK => first | exact rfl | assumption
    case kd => ktr_room
    case ku => ktr_units
    intro lim9 v9 n9 h9 tk9 lt9 R9 F9 N9
    obtain ⟨e9, vs9, k9, I9, e9'⟩ := R9
    subst e9
    subst e9'
    simp only [List.cons_append, List.nil_append] at N9
    try dsimp only
    try k_fold
    k_steps
    refine' cl_end hret N (by k_asm) (by k_asm) ?hn1 ⟨_, _, _, _, _, rfl, dig_end (by assumption) (by omega) I9, ?a1, ?b1, ⟨_, _, ?c1, ?d1⟩, rfl⟩
    case hn1 => walk_at "mem3"
    case a1 => omega
    case b1 => omega
    case c1 => assumption
    case d1 => assumption
  · refine' cl_end hret N (by k_asm) (by k_asm) ?hn2 ⟨_, _, _, _, _, rfl, (by rw [digF_f (by assumption)]; assumption), ?a2, ?b2, ⟨_, _, ?c2, ?d2⟩, rfl⟩
    case hn2 => walk_at "mem3"
    case a2 => omega
    case b2 => omega
    case c2 => assumption
    case d2 => assumption

end
section
theorem rows_a18 : True := by
  k_with_none
  k_with "m:cl enter" => (((refine wpAny_call ?_); k_dflt (refine' code_defV ?k1 ?k2 ?k3 ?k4 ?kO ?k5 ?kA ?kF ?kK ?k6 ?k7 ?k8 ?k9 ?kB ?_ ?c2 ?c3 ?c4 ?c5; (case kA => exact rfl); (case kF => exact rfl); (case kK => assumption); (case k1 => k_asm); (case k2 => k_asm); (case k3 => k_asm); (case k4 => k_asm); (case kO => k_asm); (case k5 => k_asm); (case k6 => k_is); (case k7 => k_is); (case k8 => ktr_room); (case k9 => first | exact BindsTo.of_eq rfl | exact binds_K (by k_in) rfl (by k_is) rfl rfl rfl | (refine' kp_binds ?kx ?ke; (case kx => k_in); (case ke => exact fun _ => rfl))); (case c5 => decide); (case kB => exact locs rfl); (case c2 => exact rfl); (case c3 => exact rfl); (case c4 => exact rfl); k_whole; intro g' L' h' FG' F' N' B' X' T' l1 lim'; (try k_lt l1); (try dsimp only); (try k_fold))))
  k_with "m:cl enterC" => (((refine wpAny_call ?_); k_dflt (refine' code_defCV ?k1 ?k2 ?k3 ?k4 ?kO ?k5 ?kA ?kF ?kK ?k6 ?k7 ?k8 ?k9 ?kB ?kD ?_ ?c2 ?c3 ?c4; (case kA => exact rfl); (case kF => exact rfl); (case kK => assumption); (case k1 => k_asm); (case k2 => k_asm); (case k3 => k_asm); (case k4 => k_asm); (case kO => k_asm); (case k5 => k_asm); (case k6 => k_is); (case k7 => k_is); (case k8 => ktr_room); (case k9 => first | exact BindsTo.of_eq rfl | exact binds_K (by k_in) rfl (by k_is) rfl rfl rfl | (refine' kp_binds ?kx ?ke; (case kx => k_in); (case ke => exact fun _ => rfl))); (case kB => exact rfl); (case kD => decide +kernel); (case c2 => exact rfl); (case c3 => exact rfl); (case c4 => exact rfl); k_whole; intro g' L' h' tk' cells' FG' F' N' Y' B' X' T' l1 lim'; (try k_lt l1); k_cells Y'; (try simp only [List.cons_append, List.nil_append] at N'); (try dsimp only); (try k_fold))))
  k_with "m:cl sub" => (first | exact fun _ h => h | exact List.forall_mem_nil _ | kcj_all)
  k_with "m:cl end" => ((refine' cl_end ?h ?N ?F ?N2 ?_ ?_; (case h => assumption); (case N => assumption); (case F => k_asm); (case N2 => k_asm); rotate_left))
  k_with "m:cl int" => ((refine' cl_end ?h ?N ?F ?N2 ?hn (r_int ?_); (case h => assumption); (case N => assumption); (case F => k_asm); (case N2 => k_asm); (case hn => walk_at "cl sub")))
  k_with "m:cl str" => ((refine' cl_end ?h ?N ?F ?N2 ?hn (r_str ?_); (case h => assumption); (case N => assumption); (case F => k_asm); (case N2 => k_asm); (case hn => walk_at "cl sub")))
  k_with "m:cl bool" => ((refine' cl_end ?h ?N ?F ?N2 ?hn (r_bool ?_); (case h => assumption); (case N => assumption); (case F => k_asm); (case N2 => k_asm); (case hn => walk_at "cl sub")))
  k_with "m:call builtin:list.append" => ((k_here; (with_reducible show wpAny _ _ (call (Value.builtin _) [Value.ref _, _]) _ _ _); k_dflt (refine' append_K ?k1 ?k2 ?k3 ?_ ?z; (case k1 => k_asm); (case k2 => k_asm); (case k3 => k_upd); (case z => exact Nat.le_of_ble_eq_true rfl); k_whole); intro h' F' N'; (try k_sweep)))
  k_with "m:call ref" => ((k_here; k_dflt (k_extra "call ref")))
  k_with "m:cl off1" => (first | exact List.forall_mem_nil _ | exact OwnOff.ne (by assumption) (by simp) | (refine List.forall_mem_cons.mpr ⟨?_, ?_⟩ <;> walk_at "cl off1") | k_ne)
  k_with "m:cl off" => ((unfold Off; walk_at "cl off1"))
  k_with "m:cl mem" => (first | exact List.forall_mem_nil _ | (refine List.forall_mem_cons.mpr ⟨by k_mem, ?_⟩; walk_at "cl mem") | (intro p9 h9; kst_mem))
  k_with "m:cl all" => (((try simp only [List.cons_append, List.nil_append, List.append_nil]); walk_at "cl mem"))
  k_with "m:execs cons" => ((k_here; (with_reducible refine tok_add ?_); intro tk; (try dsimp only); (try k_fold)))
  k_with "m:storeName" => ((k_here; first | ((with_reducible refine tok_sp ?_); intro t9) | ((with_reducible refine tok_st ?_); intro t9)))
  k_with "m:binaryOp Mult ref int" => ((k_here; (with_reducible show wpAny _ _ (binaryOp Operator.Mult (Value.ref _) (Value.int _ _)) _ _ _); (refine rhs_norm2 (by assumption) ?_); (refine KM.mul (by k_asm) (by k_asm) (by is_list) (by l_ints) (by omega) (by omega) (by (simp only [List.length_cons, List.length_nil]; omega)) ?_); (intro D' h' F' N' l1 i1 n1 s1 e1 e2 e3); (try k_lt l1); (try simp only [List.length_cons, List.length_nil] at e3)))
  k_with "m:in all" => (((refine List.forall_mem_cons.mpr ⟨by k_mem, ?_⟩); (refine List.forall_mem_cons.mpr ⟨by k_mem, ?_⟩); (refine List.forall_mem_cons.mpr ⟨by k_mem, ?_⟩); (refine List.forall_mem_cons.mpr ⟨by k_mem, ?_⟩); (refine List.forall_mem_cons.mpr ⟨by k_mem, ?_⟩); (refine List.forall_mem_cons.mpr ⟨by k_mem, ?_⟩); (refine List.forall_mem_cons.mpr ⟨by k_mem, ?_⟩); exact List.forall_mem_nil _))
  k_with "m:cl off" => (first | exact List.forall_mem_nil _ | (refine List.forall_mem_cons.mpr ⟨?_, ?_⟩ <;> walk_at "cl off") | k_ne)
  k_with "m:mem3" => (((refine List.forall_mem_cons.mpr ⟨by k_mem, ?_⟩); (refine List.forall_mem_cons.mpr ⟨by k_mem, ?_⟩); (refine List.forall_mem_cons.mpr ⟨by k_mem, ?_⟩); exact List.forall_mem_nil _))
  trivial
set_option maxHeartbeats 2000000 in
theorem digits2_cl (a n : Int) (k : Nat) (tx tn : Tok) (hx : 0 ≤ a ∧ a < 65536) (hn : 1 ≤ n ∧ n ≤ 9) (hkk : ((Builtin.Int.intBits a : Int) + n - 1).fdiv n = (k : Int)) (hk16 : k ≤ 16) (hk0 : a ≠ 0 → 0 < k) (c : Addr) (oc : Obj) (hc : CodeOk oc) (hc61 : @LT.lt Nat _ 61 c) :
    Cl w p loose mean mg mb 66 40 400 [.int a tx, .int n tn] [(61, tab1 c), (c, oc)] (RDig2 c oc (digF a n k)) := by
  unfold Cl
  k_fill
  intro rest dp un gd cn cs a₀ ccd cl outer A₀ base h₀ L m s Q E B CD F X N O T hk hd hu hret
  obtain ⟨C1, C2⟩ := CD
  obtain ⟨ocv, tq, hcd, hcq⟩ := hc
  walk_at "cl enterC"
  k_steps
  · refine' cl_use (rest := [(61, tab1 _)]) (in_all ?hp hn ?hoc ?hq ?hA ?hI ?hN ?hne 16 _ _ _ _ _ _ (vs := (List.replicate (k : Int).toNat [Value.int 0 _]).flatten) (ds := rep0 k) _ ?hv ?h0 ?h1 ?h2 ?h3 ?h4 ?h5 ?h6) ?k1 ?kC ?k2 ?k3 ?k4 ?ha ?kO ?k5 ?kK ?kd ?ku ?_
    case k1 => k_asm
    case kC => exact And.intro (by assumption) (by assumption)
    case k2 => k_asm
    case k3 => k_asm
    case k4 => k_asm
    case ha => walk_at "in all"
    case hp => rfl
    case hoc => assumption
    case hq => assumption
    case hA => assumption
    case hI => assumption
    case hN => assumption
    case hne => omega
    case hv => assumption
    case h0 => omega
    case h1 => omega
    case h2 => omega
    case h3 => have := hk0 (by assumption); omega
    case h4 => rw [rep0_len]; omega
    case h5 => omega
    case h6 => rw [rep0_len]; omega
    case kO => unfold Off; walk_at "cl off"
    case k5 => k_asm
    case kK => first | exact rfl | assumption
    case kd => ktr_room
    case ku => ktr_units
    intro lim9 v9 n9 h9 tk9 lt9 R9 F9 N9
    obtain ⟨e9, vs9, k9, I9, e9'⟩ := R9
    subst e9
    subst e9'
    simp only [List.cons_append, List.nil_append] at N9
    try dsimp only
    try k_fold
    k_steps
    refine' cl_end hret N (by k_asm) (by k_asm) ?hn1 ⟨_, _, _, rfl, dig_end (by assumption) (by omega) I9, ?a1, rfl⟩
    case hn1 => walk_at "mem3"
    case a1 => omega
  · refine' cl_end hret N (by k_asm) (by k_asm) ?hn2 ⟨_, _, _, rfl, (by rw [digF_f (by assumption)]; assumption), ?a2, rfl⟩
    case hn2 => walk_at "mem3"
    case a2 => omega

end
section
noncomputable def Hid (P : Prop) : Prop := P
theorem rows_a19 : True := by
  k_with_none
  k_with "m:cl enter" => (((refine wpAny_call ?_); k_dflt (refine' code_defV ?k1 ?k2 ?k3 ?k4 ?kO ?k5 ?kA ?kF ?kK ?k6 ?k7 ?k8 ?k9 ?kB ?_ ?c2 ?c3 ?c4 ?c5; (case kA => exact rfl); (case kF => exact rfl); (case kK => assumption); (case k1 => k_asm); (case k2 => k_asm); (case k3 => k_asm); (case k4 => k_asm); (case kO => k_asm); (case k5 => k_asm); (case k6 => k_is); (case k7 => k_is); (case k8 => ktr_room); (case k9 => first | exact BindsTo.of_eq rfl | exact binds_K (by k_in) rfl (by k_is) rfl rfl rfl | (refine' kp_binds ?kx ?ke; (case kx => k_in); (case ke => exact fun _ => rfl))); (case c5 => decide); (case kB => exact locs rfl); (case c2 => exact rfl); (case c3 => exact rfl); (case c4 => exact rfl); k_whole; intro g' L' h' FG' F' N' B' X' T' l1 lim'; (try k_lt l1); (try dsimp only); (try k_fold))))
  k_with "m:cl enterC" => (((refine wpAny_call ?_); k_dflt (refine' code_defCV ?k1 ?k2 ?k3 ?k4 ?kO ?k5 ?kA ?kF ?kK ?k6 ?k7 ?k8 ?k9 ?kB ?kD ?_ ?c2 ?c3 ?c4; (case kA => exact rfl); (case kF => exact rfl); (case kK => assumption); (case k1 => k_asm); (case k2 => k_asm); (case k3 => k_asm); (case k4 => k_asm); (case kO => k_asm); (case k5 => k_asm); (case k6 => k_is); (case k7 => k_is); (case k8 => ktr_room); (case k9 => first | exact BindsTo.of_eq rfl | exact binds_K (by k_in) rfl (by k_is) rfl rfl rfl | (refine' kp_binds ?kx ?ke; (case kx => k_in); (case ke => exact fun _ => rfl))); (case kB => exact rfl); (case kD => decide +kernel); (case c2 => exact rfl); (case c3 => exact rfl); (case c4 => exact rfl); k_whole; intro g' L' h' tk' cells' FG' F' N' Y' B' X' T' l1 lim'; (try k_lt l1); k_cells Y'; (try simp only [List.cons_append, List.nil_append] at N'); (try dsimp only); (try k_fold))))
  k_with "m:cl sub" => (first | exact fun _ h => h | exact List.forall_mem_nil _ | kcj_all)
  k_with "m:cl end" => ((refine' cl_end ?h ?N ?F ?N2 ?_ ?_; (case h => assumption); (case N => assumption); (case F => k_asm); (case N2 => k_asm); rotate_left))
  k_with "m:cl int" => ((refine' cl_end ?h ?N ?F ?N2 ?hn (r_int ?_); (case h => assumption); (case N => assumption); (case F => k_asm); (case N2 => k_asm); (case hn => walk_at "cl sub")))
  k_with "m:cl str" => ((refine' cl_end ?h ?N ?F ?N2 ?hn (r_str ?_); (case h => assumption); (case N => assumption); (case F => k_asm); (case N2 => k_asm); (case hn => walk_at "cl sub")))
  k_with "m:cl bool" => ((refine' cl_end ?h ?N ?F ?N2 ?hn (r_bool ?_); (case h => assumption); (case N => assumption); (case F => k_asm); (case N2 => k_asm); (case hn => walk_at "cl sub")))
  k_with "m:call builtin:list.append" => ((k_here; (with_reducible show wpAny _ _ (call (Value.builtin _) [Value.ref _, _]) _ _ _); k_dflt (refine' append_K ?k1 ?k2 ?k3 ?_ ?z; (case k1 => k_asm); (case k2 => k_asm); (case k3 => k_upd); (case z => exact Nat.le_of_ble_eq_true rfl); k_whole); intro h' F' N'; (try k_sweep)))
  k_with "m:call ref" => ((k_here; k_dflt (k_extra "call ref")))
  k_with "m:cl off1" => (first | exact List.forall_mem_nil _ | exact OwnOff.ne (by assumption) (by simp) | (refine List.forall_mem_cons.mpr ⟨?_, ?_⟩ <;> walk_at "cl off1") | k_ne)
  k_with "m:cl off" => ((unfold Off; walk_at "cl off1"))
  k_with "m:cl mem" => (first | exact List.forall_mem_nil _ | (refine List.forall_mem_cons.mpr ⟨by k_mem, ?_⟩; walk_at "cl mem") | (intro p9 h9; kst_mem))
  k_with "m:cl all" => (((try simp only [List.cons_append, List.nil_append, List.append_nil]); walk_at "cl mem"))
  k_with "m:execs cons" => ((k_here; (with_reducible refine tok_add ?_); intro tk; (try dsimp only); (try k_fold)))
  k_with "m:storeName" => ((k_here; first | ((with_reducible refine tok_sp ?_); intro t9) | ((with_reducible refine tok_st ?_); intro t9)))
  trivial
theorem bits8 : ∀ i : Fin 256, Builtin.Int.intBits (i.val : Int) ≤ 8 ∧ ((i.val : Int) ≠ 0 → 0 < Builtin.Int.intBits (i.val : Int)) := by decide +kernel
theorem bits_h {h : Int} (h0 : 0 ≤ h ∧ h < 256) : Builtin.Int.intBits h ≤ 8 ∧ (h ≠ 0 → 0 < Builtin.Int.intBits h) := by
  obtain ⟨a, rfl⟩ := Int.eq_ofNat_of_zero_le h0.1
  exact bits8 ⟨a, by omega⟩
theorem bits_div (h : Int) : ((Builtin.Int.intBits h : Int) + 1 - 1).fdiv 1 = (Builtin.Int.intBits h : Int) := by
  rw [Int.fdiv_one]; omega
noncomputable def stepS (ds : List Int) (ws sh : List Str) (t : Int) : List Str := if ds.getD t.toNat 0 = 1 then insF sh (ws.getD t.toNat default) else sh
/-- the shelf behind the turns `pre` -/
noncomputable def shF (ds : List Int) (ws : List Str) (pre : List Int) : List Str := pre.foldl (stepS ds ws) []
theorem insF_len (xs : List Str) (x : Str) : (insF xs x).length = xs.length + 1 := by
  have q := rPos_in xs x
  unfold insF
  rw [List.length_append, List.length_cons, List.length_take, List.length_drop]
  omega
structure ShInv (ds : List Int) (ws : List Str) (pre : List Int) (sh : List Str) : Prop where
  e : sh = shF ds ws pre
  l : sh.length ≤ pre.length
theorem sh_0 {ds : List Int} {ws : List Str} : ShInv ds ws [] [] := ⟨rfl, Nat.le_refl _⟩
theorem sh_t {ds : List Int} {ws : List Str} {pre : List Int} {sh : List Str} {k : Int} (i : ShInv ds ws pre sh) (h : ds.getD k.toNat 0 = 1) : ShInv ds ws (pre ++ [k]) (insF sh (ws.getD k.toNat default)) := by
  refine ⟨?_, ?_⟩
  · rw [i.e]; unfold shF; rw [List.foldl_append, List.foldl_cons, List.foldl_nil]; exact (if_pos h).symm
  · rw [insF_len, List.length_append, List.length_singleton]; have := i.l; omega
theorem sh_f {ds : List Int} {ws : List Str} {pre : List Int} {sh : List Str} {k : Int} (i : ShInv ds ws pre sh) (h : ds.getD k.toNat 0 ≠ 1) : ShInv ds ws (pre ++ [k]) sh := by
  refine ⟨?_, ?_⟩
  · rw [i.e]; unfold shF; rw [List.foldl_append, List.foldl_cons, List.foldl_nil]; exact (if_neg h).symm
  · rw [List.length_append]; have := i.l; omega
noncomputable def RList (l0 : List (Addr × Obj)) (xs : List Str) : Addr → Value → List (Addr × Obj) → Prop := fun lim v vis' => ∃ D vs j, v = .ref D ∧ StrsAre vs xs ∧ @LE.le Nat _ lim D ∧ vis' = (D, listOf vs.toArray j) :: l0
theorem cl_useL {f : Addr} {dd du : Nat} {vs : List Value} {vis : List (Addr × Obj)} {Ret : Addr → Value → List (Addr × Obj) → Prop}
    {rest all : List (Addr × Obj)} {dp un : Nat} {gd : Option (List Code)} {cn : Str} {cs : Scope} {a : Addr} {ccd : Value} {cl : List (Str × Addr)} {outer : List Env} {A₀ : Around} {base h₀ : Heap} {L : Addr} {m : Str → Option Value} {s : Shared} {Q E : Value → Shared → Prop}
    (C : Cl w p loose mean mg mb f dd du vs vis Ret)
    (B : Below A₀ base outer h₀) (CD : Cds base) (F : Fr h₀ L s.heap m) (X : (hd.heap_39 w.params).In h₀) (N : News h₀ L s.heap all) (ha : ∀ q ∈ vis ++ rest, q ∈ all) (O : Off vis rest) (T : Top p loose mean mg mb h₀) (hk : cs.kind = .function)
    (hd : dp + dd < recursionLimit) (hu : un + du < cLine)
    (ret : ∀ lim v vis' h' tk', (∀ q ∈ all, q.1 < lim) → @LT.lt Nat _ L lim → Ret lim v vis' → Fr h₀ L h' m → News h₀ L h' (vis' ++ rest) → Q v { s with heap := h', toks := tk' }) :
    wpAny (model PySem.Challenge.rw_sn0086_01.row.prog w) (ktrTop dp un gd cn cs L a ccd cl outer) (call (.ref f) vs) Q E s :=
  C rest dp un gd cn cs a ccd cl outer A₀ base h₀ L m s Q E B CD F X (fun q hq => N q (ha q hq)) O T hk hd hu (ret _ · · · · (fun q hq => Heap.lt_size (N q hq).1) F.ns.lt)
theorem rows_a20 : True := by
  k_with_none
  k_with "m:cl enter" => (((refine wpAny_call ?_); k_dflt (refine' code_defV ?k1 ?k2 ?k3 ?k4 ?kO ?k5 ?kA ?kF ?kK ?k6 ?k7 ?k8 ?k9 ?kB ?_ ?c2 ?c3 ?c4 ?c5; (case kA => exact rfl); (case kF => exact rfl); (case kK => assumption); (case k1 => k_asm); (case k2 => k_asm); (case k3 => k_asm); (case k4 => k_asm); (case kO => k_asm); (case k5 => k_asm); (case k6 => k_is); (case k7 => k_is); (case k8 => ktr_room); (case k9 => first | exact BindsTo.of_eq rfl | exact binds_K (by k_in) rfl (by k_is) rfl rfl rfl | (refine' kp_binds ?kx ?ke; (case kx => k_in); (case ke => exact fun _ => rfl))); (case c5 => decide); (case kB => exact locs rfl); (case c2 => exact rfl); (case c3 => exact rfl); (case c4 => exact rfl); k_whole; intro g' L' h' FG' F' N' B' X' T' l1 lim'; (try k_lt l1); (try dsimp only); (try k_fold))))
  k_with "m:cl enterC" => (((refine wpAny_call ?_); k_dflt (refine' code_defCV ?k1 ?k2 ?k3 ?k4 ?kO ?k5 ?kA ?kF ?kK ?k6 ?k7 ?k8 ?k9 ?kB ?kD ?_ ?c2 ?c3 ?c4; (case kA => exact rfl); (case kF => exact rfl); (case kK => assumption); (case k1 => k_asm); (case k2 => k_asm); (case k3 => k_asm); (case k4 => k_asm); (case kO => k_asm); (case k5 => k_asm); (case k6 => k_is); (case k7 => k_is); (case k8 => ktr_room); (case k9 => first | exact BindsTo.of_eq rfl | exact binds_K (by k_in) rfl (by k_is) rfl rfl rfl | (refine' kp_binds ?kx ?ke; (case kx => k_in); (case ke => exact fun _ => rfl))); (case kB => exact rfl); (case kD => decide +kernel); (case c2 => exact rfl); (case c3 => exact rfl); (case c4 => exact rfl); k_whole; intro g' L' h' tk' cells' FG' F' N' Y' B' X' T' l1 lim'; (try k_lt l1); k_cells Y'; (try simp only [List.cons_append, List.nil_append] at N'); (try dsimp only); (try k_fold))))
  k_with "m:cl sub" => (first | exact fun _ h => h | exact List.forall_mem_nil _ | kcj_all)
  k_with "m:cl end" => ((refine' cl_end ?h ?N ?F ?N2 ?_ ?_; (case h => assumption); (case N => assumption); (case F => k_asm); (case N2 => k_asm); rotate_left))
  k_with "m:cl int" => ((refine' cl_end ?h ?N ?F ?N2 ?hn (r_int ?_); (case h => assumption); (case N => assumption); (case F => k_asm); (case N2 => k_asm); (case hn => walk_at "cl sub")))
  k_with "m:cl str" => ((refine' cl_end ?h ?N ?F ?N2 ?hn (r_str ?_); (case h => assumption); (case N => assumption); (case F => k_asm); (case N2 => k_asm); (case hn => walk_at "cl sub")))
  k_with "m:cl bool" => ((refine' cl_end ?h ?N ?F ?N2 ?hn (r_bool ?_); (case h => assumption); (case N => assumption); (case F => k_asm); (case N2 => k_asm); (case hn => walk_at "cl sub")))
  k_with "m:call builtin:list.append" => ((k_here; (with_reducible show wpAny _ _ (call (Value.builtin _) [Value.ref _, _]) _ _ _); k_dflt (refine' append_K ?k1 ?k2 ?k3 ?_ ?z; (case k1 => k_asm); (case k2 => k_asm); (case k3 => k_upd); (case z => exact Nat.le_of_ble_eq_true rfl); k_whole); intro h' F' N'; (try k_sweep)))
  k_with "m:call ref" => ((k_here; k_dflt (k_extra "call ref")))
  k_with "m:cl off1" => (first | exact List.forall_mem_nil _ | exact OwnOff.ne (by assumption) (by simp) | (refine List.forall_mem_cons.mpr ⟨?_, ?_⟩ <;> walk_at "cl off1") | k_ne)
  k_with "m:cl off" => ((unfold Off; walk_at "cl off1"))
  k_with "m:cl mem" => (first | exact List.forall_mem_nil _ | (refine List.forall_mem_cons.mpr ⟨by k_mem, ?_⟩; walk_at "cl mem") | (intro p9 h9; kst_mem))
  k_with "m:cl all" => (((try simp only [List.cons_append, List.nil_append, List.append_nil]); walk_at "cl mem"))
  k_with "m:execs cons" => ((k_here; (with_reducible refine tok_add ?_); intro tk; (try dsimp only); (try k_fold)))
  k_with "m:storeName" => ((k_here; first | ((with_reducible refine tok_sp ?_); intro t9) | ((with_reducible refine tok_st ?_); intro t9)))
  k_with "m:call builtin:len" => ((k_here; (with_reducible show wpAny _ _ (call (Value.builtin "len") [Value.ref _]) _ _ _); k_dflt (refine' kst_len ?k1 ?k2 ?k3 ?k4 ?_; (case k1 => k_asm); (case k2 => k_mem); (case k3 => exact (IntsAre.length (by assumption)).trans (digF_len _ _ _)); (case k4 => omega); k_whole)))
  k_with "m:subscriptTail Name Name ref int" => ((k_here; (with_reducible show wpAny _ _ (subscriptTail _ _ (Value.ref _) (Value.int _ _)) _ _ _); k_dflt (k_extra "item")))
  trivial
set_option maxHeartbeats 2000000 in
theorem shelf_cl (h : Int) (tx : Tok) (hx : 0 ≤ h ∧ h < 256) (wl : Addr) (wvs : List Value) (wn : Nat) (ws : List Str) (hw : StrsAre wvs ws) (hw8 : ws.length = 8) (c : Addr) (oc : Obj) (hc : CodeOk oc) (hc61 : @LT.lt Nat _ 61 c) (hne : @Ne Nat wl 61 ∧ @Ne Nat wl c) :
    Cl w p loose mean mg mb 281 60 600 [.ref wl, .int h tx] [(wl, listOf wvs.toArray wn), (61, tab1 c), (c, oc)] (RList [(wl, listOf wvs.toArray wn), (61, tab1 c), (c, oc)] (shF (digF h 1 (Builtin.Int.intBits h)) ws (rangeKs 0 (Builtin.Int.intBits h)))) := by
  unfold Cl
  k_fill
  intro rest dp un gd cn cs a₀ ccd cl outer A₀ base h₀ L m s Q E B CD F X N O T hk hd hu hret
  have hb0 := bits_h hx
  have hb : Builtin.Int.intBits h ≤ 100 ∧ (h ≠ 0 → 0 < Builtin.Int.intBits h) := ⟨by omega, hb0.2⟩
  replace hb0 : Hid (Builtin.Int.intBits h ≤ 8) := hb0.1
  have hx6 : 0 ≤ h ∧ h < 65536 := ⟨hx.1, by omega⟩
  walk_at "cl enter"
  k_with_none
  k_with "m:cl enter" => (((refine wpAny_call ?_); k_dflt (refine' code_defV ?k1 ?k2 ?k3 ?k4 ?kO ?k5 ?kA ?kF ?kK ?k6 ?k7 ?k8 ?k9 ?kB ?_ ?c2 ?c3 ?c4 ?c5; (case kA => exact rfl); (case kF => exact rfl); (case kK => assumption); (case k1 => k_asm); (case k2 => k_asm); (case k3 => k_asm); (case k4 => k_asm); (case kO => k_asm); (case k5 => k_asm); (case k6 => k_is); (case k7 => k_is); (case k8 => ktr_room); (case k9 => first | exact BindsTo.of_eq rfl | exact binds_K (by k_in) rfl (by k_is) rfl rfl rfl | (refine' kp_binds ?kx ?ke; (case kx => k_in); (case ke => exact fun _ => rfl))); (case c5 => decide); (case kB => exact locs rfl); (case c2 => exact rfl); (case c3 => exact rfl); (case c4 => exact rfl); k_whole; intro g' L' h' FG' F' N' B' X' T' l1 lim'; (try k_lt l1); (try dsimp only); (try k_fold))))
  k_with "m:cl enterC" => (((refine wpAny_call ?_); k_dflt (refine' code_defCV ?k1 ?k2 ?k3 ?k4 ?kO ?k5 ?kA ?kF ?kK ?k6 ?k7 ?k8 ?k9 ?kB ?kD ?_ ?c2 ?c3 ?c4; (case kA => exact rfl); (case kF => exact rfl); (case kK => assumption); (case k1 => k_asm); (case k2 => k_asm); (case k3 => k_asm); (case k4 => k_asm); (case kO => k_asm); (case k5 => k_asm); (case k6 => k_is); (case k7 => k_is); (case k8 => ktr_room); (case k9 => first | exact BindsTo.of_eq rfl | exact binds_K (by k_in) rfl (by k_is) rfl rfl rfl | (refine' kp_binds ?kx ?ke; (case kx => k_in); (case ke => exact fun _ => rfl))); (case kB => exact rfl); (case kD => decide +kernel); (case c2 => exact rfl); (case c3 => exact rfl); (case c4 => exact rfl); k_whole; intro g' L' h' tk' cells' FG' F' N' Y' B' X' T' l1 lim'; (try k_lt l1); k_cells Y'; (try simp only [List.cons_append, List.nil_append] at N'); (try dsimp only); (try k_fold))))
  k_with "m:cl sub" => (first | exact fun _ h => h | exact List.forall_mem_nil _ | kcj_all)
  k_with "m:cl end" => ((refine' cl_end ?h ?N ?F ?N2 ?_ ?_; (case h => assumption); (case N => assumption); (case F => k_asm); (case N2 => k_asm); rotate_left))
  k_with "m:cl int" => ((refine' cl_end ?h ?N ?F ?N2 ?hn (r_int ?_); (case h => assumption); (case N => assumption); (case F => k_asm); (case N2 => k_asm); (case hn => walk_at "cl sub")))
  k_with "m:cl str" => ((refine' cl_end ?h ?N ?F ?N2 ?hn (r_str ?_); (case h => assumption); (case N => assumption); (case F => k_asm); (case N2 => k_asm); (case hn => walk_at "cl sub")))
  k_with "m:cl bool" => ((refine' cl_end ?h ?N ?F ?N2 ?hn (r_bool ?_); (case h => assumption); (case N => assumption); (case F => k_asm); (case N2 => k_asm); (case hn => walk_at "cl sub")))
  k_with "m:call builtin:list.append" => ((k_here; (with_reducible show wpAny _ _ (call (Value.builtin _) [Value.ref _, _]) _ _ _); k_dflt (refine' append_K ?k1 ?k2 ?k3 ?_ ?z; (case k1 => k_asm); (case k2 => k_asm); (case k3 => k_upd); (case z => exact Nat.le_of_ble_eq_true rfl); k_whole); intro h' F' N'; (try k_sweep)))
  k_with "m:call ref" => ((k_here; k_dflt (k_extra "call ref")))
  k_with "m:cl off1" => (first | exact List.forall_mem_nil _ | exact OwnOff.ne (by assumption) (by simp) | (refine List.forall_mem_cons.mpr ⟨?_, ?_⟩ <;> walk_at "cl off1") | k_ne)
  k_with "m:cl off" => ((unfold Off; walk_at "cl off1"))
  k_with "m:cl mem" => (first | exact List.forall_mem_nil _ | (refine List.forall_mem_cons.mpr ⟨by k_mem, ?_⟩; walk_at "cl mem") | (intro p9 h9; kst_mem))
  k_with "m:cl all" => (((try simp only [List.cons_append, List.nil_append, List.append_nil]); walk_at "cl mem"))
  k_with "m:execs cons" => ((k_here; (with_reducible refine tok_add ?_); intro tk; (try dsimp only); (try k_fold)))
  k_with "m:storeName" => ((k_here; first | ((with_reducible refine tok_sp ?_); intro t9) | ((with_reducible refine tok_st ?_); intro t9)))
  k_with "m:call builtin:len" => ((k_here; (with_reducible show wpAny _ _ (call (Value.builtin "len") [Value.ref _]) _ _ _); k_dflt (refine' kst_len ?k1 ?k2 ?k3 ?k4 ?_; (case k1 => k_asm); (case k2 => k_mem); (case k3 => exact (IntsAre.length (by assumption)).trans (digF_len _ _ _)); (case k4 => omega); k_whole)))
  k_with "m:subscriptTail Name Name ref int" => ((k_here; (with_reducible show wpAny _ _ (subscriptTail _ _ (Value.ref _) (Value.int _ _)) _ _ _); k_dflt (k_extra "item")))
  k_with "call ref" => (refine' cl_useL (rest := [(wl, listOf wvs.toArray wn)]) (digits2_cl h 1 (Builtin.Int.intBits h) _ _ hx6 (by decide) (bits_div h) (Nat.le_trans (show _ ≤ 8 from hb0) (by decide)) hb.2 c oc hc hc61) ?k1 ?kC ?k2 ?k3 ?k4 ?ha ?kO ?k5 ?kK ?kd ?ku ?_; (case k1 => k_asm); (case kC => assumption); (case k2 => k_asm); (case k3 => k_asm); (case k4 => k_asm); (case ha => walk_at "cl all"); (case kO => walk_at "cl off"); (case k5 => k_asm); (case kK => first | exact rfl | assumption); (case kd => ktr_room); (case ku => ktr_units); intro lim9 v9 n9 h9 tk9 lt9 lL9 R9 F9 N9; (obtain ⟨D9, vs9, j9, e9, I9, l9, e9'⟩ := R9); subst e9; subst e9'; (try simp only [List.cons_append, List.nil_append] at N9); (have l1 := allLt_of lt9); (simp only [AllLt, and_true] at l1); (try dsimp only); (try k_fold))
  k_with "call ref" => (refine' cl_use (rest := [(wl, listOf wvs.toArray wn), (61, tab1 c), (c, oc), (D9, listOf vs9.toArray j9)] ++ kOwn) (insort_cl _ _ _ _ _ _ ?hv ?hl) ?k1 ?kC ?k2 ?k3 ?k4 ?ha ?kO ?k5 ?kK ?kd ?ku ?_; (case k1 => k_asm); (case kC => assumption); (case k2 => k_asm); (case k3 => k_asm); (case k4 => k_asm); (case ha => walk_at "cl all"); (case hv => assumption); (case hl => (have q9 := ShInv.l (by assumption); omega)); (case kO => walk_at "cl off"); (case k5 => k_asm); (case kK => first | exact rfl | assumption); (case kd => ktr_room); (case ku => ktr_units); intro lim8 v8 n8 h8 tk8 lt8 R8 F8 N8; (obtain ⟨e8, vs8, I8, e8'⟩ := R8); subst e8; subst e8'; (try simp only [List.cons_append, List.nil_append] at N8); (try dsimp only); (try k_fold))
  k_with "pyIter ref" => (k_state (fun pre shelf => ShInv (digF h 1 (Builtin.Int.intBits h)) ws pre shelf) "shelf$")
  k_with "item" => (first | (refine' ksa_sub ?k1 ?k2 ?k3 ?k4 ?k5 ?k6 ?_ (by with_unfolding_all rfl); (case k1 => k_asm); (case k2 => k_mem); (case k3 => with_reducible assumption); (case k4 => omega); (case k5 => (rw [digF_len]; omega)); (case k6 => omega); k_whole; intro _) | (refine' item_strs ?it1 ?it2 ?it3 ?it4 ?it5 ?it6; (case it1 => is_list); (case it2 => with_reducible assumption); (case it3 => omega); (case it4 => (have := (show _ ≤ 8 from hb0); omega)); (case it5 => (rw [hw8]; decide)); k_whole; intro t9))
  k_with "state" => (first | exact sh_0 | exact sh_t (by assumption) (by assumption) | exact sh_f (by assumption) (by assumption))
  k_steps
  have e9 : ((Builtin.Int.intBits h : Int) - 0).toNat = Builtin.Int.intBits h := by omega
  rw [e9] at kInv
  rw [← kInv.e] at hret
  refine' cl_end hret N (by k_asm) (by k_asm) ?hn1 ⟨_, _, _, rfl, (by assumption), ?a1, rfl⟩
  case hn1 => walk_at "cl mem"
  case a1 => omega

end
section
noncomputable def AllOk (xs : List Str) : Prop := ∀ x ∈ xs, PyData.strOk x = true
theorem rows_a21 : True := by
  k_with_none
  k_with "m:cl enter" => (((refine wpAny_call ?_); k_dflt (refine' code_defV ?k1 ?k2 ?k3 ?k4 ?kO ?k5 ?kA ?kF ?kK ?k6 ?k7 ?k8 ?k9 ?kB ?_ ?c2 ?c3 ?c4 ?c5; (case kA => exact rfl); (case kF => exact rfl); (case kK => assumption); (case k1 => k_asm); (case k2 => k_asm); (case k3 => k_asm); (case k4 => k_asm); (case kO => k_asm); (case k5 => k_asm); (case k6 => k_is); (case k7 => k_is); (case k8 => ktr_room); (case k9 => first | exact BindsTo.of_eq rfl | exact binds_K (by k_in) rfl (by k_is) rfl rfl rfl | (refine' kp_binds ?kx ?ke; (case kx => k_in); (case ke => exact fun _ => rfl))); (case c5 => decide); (case kB => exact locs rfl); (case c2 => exact rfl); (case c3 => exact rfl); (case c4 => exact rfl); k_whole; intro g' L' h' FG' F' N' B' X' T' l1 lim'; (try k_lt l1); (try dsimp only); (try k_fold))))
  k_with "m:cl enterC" => (((refine wpAny_call ?_); k_dflt (refine' code_defCV ?k1 ?k2 ?k3 ?k4 ?kO ?k5 ?kA ?kF ?kK ?k6 ?k7 ?k8 ?k9 ?kB ?kD ?_ ?c2 ?c3 ?c4; (case kA => exact rfl); (case kF => exact rfl); (case kK => assumption); (case k1 => k_asm); (case k2 => k_asm); (case k3 => k_asm); (case k4 => k_asm); (case kO => k_asm); (case k5 => k_asm); (case k6 => k_is); (case k7 => k_is); (case k8 => ktr_room); (case k9 => first | exact BindsTo.of_eq rfl | exact binds_K (by k_in) rfl (by k_is) rfl rfl rfl | (refine' kp_binds ?kx ?ke; (case kx => k_in); (case ke => exact fun _ => rfl))); (case kB => exact rfl); (case kD => decide +kernel); (case c2 => exact rfl); (case c3 => exact rfl); (case c4 => exact rfl); k_whole; intro g' L' h' tk' cells' FG' F' N' Y' B' X' T' l1 lim'; (try k_lt l1); k_cells Y'; (try simp only [List.cons_append, List.nil_append] at N'); (try dsimp only); (try k_fold))))
  k_with "m:cl sub" => (first | exact fun _ h => h | exact List.forall_mem_nil _ | kcj_all)
  k_with "m:cl end" => ((refine' cl_end ?h ?N ?F ?N2 ?_ ?_; (case h => assumption); (case N => assumption); (case F => k_asm); (case N2 => k_asm); rotate_left))
  k_with "m:cl int" => ((refine' cl_end ?h ?N ?F ?N2 ?hn (r_int ?_); (case h => assumption); (case N => assumption); (case F => k_asm); (case N2 => k_asm); (case hn => walk_at "cl sub")))
  k_with "m:cl str" => ((refine' cl_end ?h ?N ?F ?N2 ?hn (r_str ?_); (case h => assumption); (case N => assumption); (case F => k_asm); (case N2 => k_asm); (case hn => walk_at "cl sub")))
  k_with "m:cl bool" => ((refine' cl_end ?h ?N ?F ?N2 ?hn (r_bool ?_); (case h => assumption); (case N => assumption); (case F => k_asm); (case N2 => k_asm); (case hn => walk_at "cl sub")))
  k_with "m:call builtin:list.append" => ((k_here; (with_reducible show wpAny _ _ (call (Value.builtin _) [Value.ref _, _]) _ _ _); k_dflt (refine' append_K ?k1 ?k2 ?k3 ?_ ?z; (case k1 => k_asm); (case k2 => k_asm); (case k3 => k_upd); (case z => exact Nat.le_of_ble_eq_true rfl); k_whole); intro h' F' N'; (try k_sweep)))
  k_with "m:call ref" => ((k_here; k_dflt (k_extra "call ref")))
  k_with "m:cl off1" => (first | exact List.forall_mem_nil _ | exact OwnOff.ne (by assumption) (by simp) | (refine List.forall_mem_cons.mpr ⟨?_, ?_⟩ <;> walk_at "cl off1") | k_ne)
  k_with "m:cl off" => ((unfold Off; walk_at "cl off1"))
  k_with "m:cl mem" => (first | exact List.forall_mem_nil _ | (refine List.forall_mem_cons.mpr ⟨by k_mem, ?_⟩; walk_at "cl mem") | (intro p9 h9; kst_mem))
  k_with "m:cl all" => (((try simp only [List.cons_append, List.nil_append, List.append_nil]); walk_at "cl mem"))
  k_with "m:execs cons" => ((k_here; (with_reducible refine tok_add ?_); intro tk; (try dsimp only); (try k_fold)))
  k_with "m:storeName" => ((k_here; first | ((with_reducible refine tok_sp ?_); intro t9) | ((with_reducible refine tok_st ?_); intro t9)))
  trivial
theorem es_canLay : ∀ ns : List Str, AllOk ns → PyData.canLayAll0 (ns.map PyData.str) = true
  | [], _ => rfl
  | a :: r, h => by simp [PyData.canLayAll0, PyData.canLay0, es_canLay r (fun x hx => h x (.tail _ hx)), h a (.head _)]
theorem es_depth : ∀ ns : List Str, PyData.depthAll (ns.map PyData.str) = 0
  | [] => rfl
  | _ :: r => by simp [PyData.depthAll, PyData.depth, es_depth r]
theorem es_shaped {ns : List Str} (h : AllOk ns) : SeqAt.shaped (.list (ns.map PyData.str)) = true := by
  simp [SeqAt.shaped, PyData.canLay0, PyData.depth, es_canLay ns h, es_depth]
theorem es_sameAll : ∀ ns ms : List Str, PySem.Spec.sameAll (ns.map PyData.str) (ms.map PyData.str) = decide (ns = ms)
  | [], [] => by simp [PySem.Spec.sameAll]
  | [], _ :: _ => by simp [PySem.Spec.sameAll]
  | _ :: _, [] => by simp [PySem.Spec.sameAll]
  | a :: r, b :: t => by
    simp only [List.map_cons, PySem.Spec.sameAll, PySem.Spec.same, es_sameAll r t]
    by_cases h : a = b <;> by_cases h' : r = t <;> simp [h, h']
theorem es_same (ns ms : List Str) : PySem.Spec.same (.list (ns.map PyData.str)) (.list (ms.map PyData.str)) = decide (ns = ms) := by
  simp only [PySem.Spec.same]; exact es_sameAll ns ms
theorem es_carried : ∀ {vs : List Value} {ns : List Str}, StrsAre vs ns → CarriedAll vs (ns.map PyData.str)
  | _, _, .nil => .nil
  | _, _, .cons _ t r => .cons (.str _ t) (es_carried r)
theorem es_eq {prog : Program} {A : Around} {E : Value → Shared → Prop} {s : Shared} {a b : Addr} {xs ys : List Value} {ns ms : List Str} {Q : Value → Shared → Prop} (ha : s.heap.IsList a xs.toArray) (hb : s.heap.IsList b ys.toArray) (hi : StrsAre xs ns) (hj : StrsAre ys ms) (hoa : AllOk ns) (hob : AllOk ms) (hu : A.units + 64 < cLine) (h : Q (.bool (decide (ns = ms))) s) :
    wpAny (model prog w) A (compareOp .Eq (.ref a) (.ref b)) Q E s :=
  eq_dataH_same (reads_newData ha (es_carried hi)) (reads_newData hb (es_carried hj)) (es_shaped hoa) (es_shaped hob) hu (SeqAt.noMix_of_shape (.list .str) rfl _ _ (list_map_has fun _ => rfl) (list_map_has fun _ => rfl)) (by rw [es_same]; exact h)
theorem bisL_in (xs : List Str) (x : Str) : ∀ (f : Nat) (lo hi : Int), 0 ≤ lo → lo ≤ hi → lo ≤ bisL xs x f lo hi ∧ bisL xs x f lo hi ≤ hi
  | 0, lo, hi, _, h => ⟨Int.le_refl _, h⟩
  | f + 1, lo, hi, h0, h => by
    rw [bisL]
    split
    · rename_i h1
      have q := mid_b h0 h1
      split
      · have := bisL_in xs x f ((lo + hi).fdiv 2 + 1) hi (by omega) (by omega); omega
      · have := bisL_in xs x f lo ((lo + hi).fdiv 2) h0 q.2.1; omega
    · exact ⟨Int.le_refl _, h⟩
noncomputable def lPos (xs : List Str) (x : Str) : Int := bisL xs x xs.length 0 xs.length
theorem lPos_in (xs : List Str) (x : Str) : 0 ≤ lPos xs x ∧ lPos xs x ≤ xs.length := bisL_in xs x _ 0 _ (Int.le_refl _) (by omega)
theorem pick1 (vs : List Value) (p : Int) (h0 : 0 ≤ p) : kms_pick vs (some p) (some (p + 1)) = (vs.drop p.toNat).take 1 := by
  have e1 : kms_lo (some p) vs.length = min p.toNat vs.length := (if_neg (by omega) : (if p < 0 then _ else _) = _)
  have e2 : kms_hi (some (p + 1)) vs.length = min (p + 1).toNat vs.length := (if_neg (by omega) : (if p + 1 < 0 then _ else _) = _)
  unfold kms_pick
  rw [e1, e2]
  by_cases h : p.toNat < vs.length
  · rw [show min p.toNat vs.length = p.toNat by omega, show min (p + 1).toNat vs.length - p.toNat = 1 by omega]
  · rw [show min p.toNat vs.length = vs.length by omega, List.drop_eq_nil_of_le (Nat.le_refl _), List.drop_eq_nil_of_le (by omega)]
    simp
/-- the item at p, when there is one, in a list of its own -/
noncomputable def sl1 (xs : List Str) (x : Str) : List Str := (xs.drop (lPos xs x).toNat).take 1
theorem sl1_strs {vs : List Value} {xs : List Str} (x : Str) (hv : StrsAre vs xs) : StrsAre ((vs.drop (lPos xs x).toNat).take 1) (sl1 xs x) := strs_take _ (strs_drop _ hv)
theorem slice1 {prog : Program} {A : Around} {E : Value → Shared → Prop} {s : Shared} {h₀ : Heap} {L l : Addr} {m : Str → Option Value} {news : List (Addr × Obj)} {value slice : PySem.Expr} {vs : List Value} {xs : List Str} {x : Str} {t u : Tok} {Q : Value → Shared → Prop} (F : Fr h₀ L s.heap m) (N : News h₀ L s.heap news) (hl : s.heap.IsList l vs.toArray) (hv : StrsAre vs xs) (hb : xs.length ≤ 100)
    (h : ∀ D ys h', Fr h₀ L h' m → News h₀ L h' ((D, listOf (List.toArray ys) 0) :: news) → (∀ p ∈ news, p.1 < D) → StrsAre ys (sl1 xs x) → Q (.ref D) { s with heap := h' })
    (hs : subscripted slice false (.ref l) (.ref s.heap.objs.size) = operate [.ref s.heap.objs.size, .ref l] (getItem (.ref l) (.ref s.heap.objs.size))) (ht : ∀ r, letTemporaryGo value (.ref l) r = pure ()) :
    wpAny (model prog w) A (subscriptTail value slice (.ref l) (.ref s.heap.objs.size)) Q E { s with heap := s.heap.push { cls := .type "slice", data := .fields #[.int (bisL xs x xs.length 0 xs.length) t, .int (bisL xs x xs.length 0 xs.length + 1) u, .none] } } :=
  kms_slice_lit F N hl (.int _ _) (.int _ _) (pick1 vs _ (lPos_in xs x).1) (fun D h' F' N' l1 => h D _ h' F' N' l1 (sl1_strs x hv)) hs ht (by rw [List.size_toArray, strs_len hv, sizeLine_eq]; omega)
theorem ok_sl1 {xs : List Str} {x : Str} (h : AllOk xs) : AllOk (sl1 xs x) := fun y hy => h y (List.mem_of_mem_drop (List.mem_of_mem_take hy))
theorem ok_one {xs : List Str} {k : Int} (h : AllOk xs) (h0 : 0 ≤ k) (h1 : k < xs.length) : AllOk [xs.getD k.toNat default] := fun y hy => by
  rw [List.mem_singleton] at hy
  subst hy
  rw [List.getD_eq_getElem?_getD, List.getElem?_eq_getElem (by omega)]
  exact h _ (List.getElem_mem _)
noncomputable def stepK (ws sh : List Str) (kept : List Int) (k : Int) : List Int := if sl1 sh (ws.getD k.toNat default) = [ws.getD k.toNat default] then kept ++ [k] else kept
noncomputable def keptF (ws sh : List Str) (ks : List Int) : List Int := ks.foldl (stepK ws sh) []
structure KInv (ws sh : List Str) (pre kept : List Int) : Prop where
  e : kept = keptF ws sh pre
  l : kept.length ≤ pre.length
theorem ki_0 {ws sh : List Str} : KInv ws sh [] [] := ⟨rfl, Nat.le_refl _⟩
theorem ki_t {ws sh : List Str} {pre kept : List Int} {k : Int} (i : KInv ws sh pre kept) (h : sl1 sh (ws.getD k.toNat default) = [ws.getD k.toNat default]) : KInv ws sh (pre ++ [k]) (kept ++ [k]) := by
  refine ⟨?_, ?_⟩
  · rw [i.e]; unfold keptF; rw [List.foldl_append, List.foldl_cons, List.foldl_nil]; exact (if_pos h).symm
  · rw [List.length_append, List.length_append]; have := i.l; simp; omega
theorem ki_f {ws sh : List Str} {pre kept : List Int} {k : Int} (i : KInv ws sh pre kept) (h : sl1 sh (ws.getD k.toNat default) ≠ [ws.getD k.toNat default]) : KInv ws sh (pre ++ [k]) kept := by
  refine ⟨?_, ?_⟩
  · rw [i.e]; unfold keptF; rw [List.foldl_append, List.foldl_cons, List.foldl_nil]; exact (if_neg h).symm
  · rw [List.length_append]; have := i.l; omega
noncomputable def RInts (l0 : List (Addr × Obj)) (xs : List Int) : Addr → Value → List (Addr × Obj) → Prop := fun lim v vis' => ∃ D vs j, v = .ref D ∧ IntsAre vs xs ∧ @LE.le Nat _ lim D ∧ vis' = (D, listOf vs.toArray j) :: l0
theorem newList_L {M : Model} {A : Around} {E : Value → Shared → Prop} {s : Shared} {h₀ : Heap} {L : Addr} {m : Str → Option Value} {news : List (Addr × Obj)} {Q : Value → Shared → Prop} (F : Fr h₀ L s.heap m) (N : News h₀ L s.heap news)
    (h : ∀ l h', Fr h₀ L h' m → News h₀ L h' ((l, listOf #[] 0) :: news) → (∀ p ∈ news, p.1 < l) → @LT.lt Nat _ L l → Q (.ref l) { s with heap := h' }) : wpAny M A (newList []) Q E s :=
  newList_N F N (fun h' F' N' => h _ h' F' N' (fun p hp => Heap.lt_size (N p hp).1) F.ns.lt) (by decide)
theorem rows_a22 : True := by
  k_with_none
  k_with "m:cl enter" => (((refine wpAny_call ?_); k_dflt (refine' code_defV ?k1 ?k2 ?k3 ?k4 ?kO ?k5 ?kA ?kF ?kK ?k6 ?k7 ?k8 ?k9 ?kB ?_ ?c2 ?c3 ?c4 ?c5; (case kA => exact rfl); (case kF => exact rfl); (case kK => assumption); (case k1 => k_asm); (case k2 => k_asm); (case k3 => k_asm); (case k4 => k_asm); (case kO => k_asm); (case k5 => k_asm); (case k6 => k_is); (case k7 => k_is); (case k8 => ktr_room); (case k9 => first | exact BindsTo.of_eq rfl | exact binds_K (by k_in) rfl (by k_is) rfl rfl rfl | (refine' kp_binds ?kx ?ke; (case kx => k_in); (case ke => exact fun _ => rfl))); (case c5 => decide); (case kB => exact locs rfl); (case c2 => exact rfl); (case c3 => exact rfl); (case c4 => exact rfl); k_whole; intro g' L' h' FG' F' N' B' X' T' l1 lim'; (try k_lt l1); (try dsimp only); (try k_fold))))
  k_with "m:cl enterC" => (((refine wpAny_call ?_); k_dflt (refine' code_defCV ?k1 ?k2 ?k3 ?k4 ?kO ?k5 ?kA ?kF ?kK ?k6 ?k7 ?k8 ?k9 ?kB ?kD ?_ ?c2 ?c3 ?c4; (case kA => exact rfl); (case kF => exact rfl); (case kK => assumption); (case k1 => k_asm); (case k2 => k_asm); (case k3 => k_asm); (case k4 => k_asm); (case kO => k_asm); (case k5 => k_asm); (case k6 => k_is); (case k7 => k_is); (case k8 => ktr_room); (case k9 => first | exact BindsTo.of_eq rfl | exact binds_K (by k_in) rfl (by k_is) rfl rfl rfl | (refine' kp_binds ?kx ?ke; (case kx => k_in); (case ke => exact fun _ => rfl))); (case kB => exact rfl); (case kD => decide +kernel); (case c2 => exact rfl); (case c3 => exact rfl); (case c4 => exact rfl); k_whole; intro g' L' h' tk' cells' FG' F' N' Y' B' X' T' l1 lim'; (try k_lt l1); k_cells Y'; (try simp only [List.cons_append, List.nil_append] at N'); (try dsimp only); (try k_fold))))
  k_with "m:cl sub" => (first | exact fun _ h => h | exact List.forall_mem_nil _ | kcj_all)
  k_with "m:cl end" => ((refine' cl_end ?h ?N ?F ?N2 ?_ ?_; (case h => assumption); (case N => assumption); (case F => k_asm); (case N2 => k_asm); rotate_left))
  k_with "m:cl int" => ((refine' cl_end ?h ?N ?F ?N2 ?hn (r_int ?_); (case h => assumption); (case N => assumption); (case F => k_asm); (case N2 => k_asm); (case hn => walk_at "cl sub")))
  k_with "m:cl str" => ((refine' cl_end ?h ?N ?F ?N2 ?hn (r_str ?_); (case h => assumption); (case N => assumption); (case F => k_asm); (case N2 => k_asm); (case hn => walk_at "cl sub")))
  k_with "m:cl bool" => ((refine' cl_end ?h ?N ?F ?N2 ?hn (r_bool ?_); (case h => assumption); (case N => assumption); (case F => k_asm); (case N2 => k_asm); (case hn => walk_at "cl sub")))
  k_with "m:call builtin:list.append" => ((k_here; (with_reducible show wpAny _ _ (call (Value.builtin _) [Value.ref _, _]) _ _ _); k_dflt (refine' append_K ?k1 ?k2 ?k3 ?_ ?z; (case k1 => k_asm); (case k2 => k_asm); (case k3 => k_upd); (case z => exact Nat.le_of_ble_eq_true rfl); k_whole); intro h' F' N'; (try k_sweep)))
  k_with "m:call ref" => ((k_here; k_dflt (k_extra "call ref")))
  k_with "m:cl off1" => (first | exact List.forall_mem_nil _ | exact OwnOff.ne (by assumption) (by simp) | (refine List.forall_mem_cons.mpr ⟨?_, ?_⟩ <;> walk_at "cl off1") | k_ne)
  k_with "m:cl off" => ((unfold Off; walk_at "cl off1"))
  k_with "m:cl mem" => (first | exact List.forall_mem_nil _ | (refine List.forall_mem_cons.mpr ⟨by k_mem, ?_⟩; walk_at "cl mem") | (intro p9 h9; kst_mem))
  k_with "m:cl all" => (((try simp only [List.cons_append, List.nil_append, List.append_nil]); walk_at "cl mem"))
  k_with "m:execs cons" => ((k_here; (with_reducible refine tok_add ?_); intro tk; (try dsimp only); (try k_fold)))
  k_with "m:storeName" => ((k_here; first | ((with_reducible refine tok_sp ?_); intro t9) | ((with_reducible refine tok_st ?_); intro t9)))
  k_with "m:newList" => ((k_here; (with_reducible show wpAny _ _ (newList []) _ _ _); k_dflt (refine' newList_L ?k1 ?k2 ?_; (case k1 => k_asm); (case k2 => k_asm); k_whole); intro l' h' F' N' l1 lL1; (try k_lt l1); (try k_sweep)))
  k_with "m:subscriptTail Name Slice ref ref" => ((k_here; (with_reducible show wpAny _ _ (subscriptTail _ (PySem.Expr.Slice _ _ none _) (Value.ref _) (Value.ref _)) _ _ _); k_dflt (refine' slice1 ?s1 ?s2 ?s3 ?s4 ?s5 ?_ ?s6 ?s7; (case s1 => k_asm); (case s2 => k_asm); (case s3 => is_list); (case s4 => with_reducible assumption); (case s5 => with_reducible assumption); (case s6 => with_unfolding_all rfl); (case s7 => (intro _; with_unfolding_all rfl))); intro D7 ys7 h7 F7 N7 l7 I7; (k_lt l7)))
  k_with "m:compareOp Eq ref ref" => ((k_here; (with_reducible show wpAny _ _ (compareOp CmpOp.Eq (Value.ref _) (Value.ref _)) _ _ _); k_dflt (refine' es_eq ?s1 ?s2 ?s3 ?s4 ?o1 ?o2 ?s5 ?_; (case s1 => is_list); (case s2 => is_list); (case s3 => with_reducible assumption); (case s4 => exact .cons _ _ .nil); (case o1 => (k_extra "ok1")); (case o2 => (k_extra "ok2")); (case s5 => ktr_units))))
  k_with "m:subscriptTail Name Name ref int" => ((k_here; (with_reducible show wpAny _ _ (subscriptTail _ _ (Value.ref _) (Value.int _ _)) _ _ _); k_dflt (k_extra "item")))
  k_with "m:call builtin:list.append" => ((k_here; (with_reducible show wpAny _ _ (call (Value.builtin _) [Value.ref _, Value.int _ _]) _ _ _); k_dflt (refine' append_K ?k1 ?k2 ?k3 ?_ ?z; (case k1 => k_asm); (case k2 => k_asm); (case k3 => k_upd); (case z => (rw [List.size_toArray, sizeLine_eq]; have hl9 := KInv.l (by assumption); omega)); k_whole); intro h' F' N'; (try k_sweep)))
  trivial
set_option maxHeartbeats 1000000 in
theorem kept_cl (wl sl : Addr) (wvs svs : List Value) (wn sn : Nat) (ws sh : List Str) (hw : StrsAre wvs ws) (hw8 : ws.length = 8) (hs : StrsAre svs sh) (hs8 : sh.length ≤ 100) (hwo : AllOk ws) (hso : AllOk sh) (hne : @Ne Nat wl sl) :
    Cl w p loose mean mg mb 288 60 600 [.ref wl, .ref sl] [(wl, listOf wvs.toArray wn), (sl, listOf svs.toArray sn)] (RInts [(wl, listOf wvs.toArray wn), (sl, listOf svs.toArray sn)] (keptF ws sh (rangeKs 0 8))) := by
  unfold Cl
  k_fill
  intro rest dp un gd cn cs a₀ ccd cl outer A₀ base h₀ L m s Q E B CD F X N O T hk hd hu hret
  have i0 : IntsAre [] [] := .nil
  walk_at "cl enter"
  k_with_none
  k_with "m:cl enter" => (((refine wpAny_call ?_); k_dflt (refine' code_defV ?k1 ?k2 ?k3 ?k4 ?kO ?k5 ?kA ?kF ?kK ?k6 ?k7 ?k8 ?k9 ?kB ?_ ?c2 ?c3 ?c4 ?c5; (case kA => exact rfl); (case kF => exact rfl); (case kK => assumption); (case k1 => k_asm); (case k2 => k_asm); (case k3 => k_asm); (case k4 => k_asm); (case kO => k_asm); (case k5 => k_asm); (case k6 => k_is); (case k7 => k_is); (case k8 => ktr_room); (case k9 => first | exact BindsTo.of_eq rfl | exact binds_K (by k_in) rfl (by k_is) rfl rfl rfl | (refine' kp_binds ?kx ?ke; (case kx => k_in); (case ke => exact fun _ => rfl))); (case c5 => decide); (case kB => exact locs rfl); (case c2 => exact rfl); (case c3 => exact rfl); (case c4 => exact rfl); k_whole; intro g' L' h' FG' F' N' B' X' T' l1 lim'; (try k_lt l1); (try dsimp only); (try k_fold))))
  k_with "m:cl enterC" => (((refine wpAny_call ?_); k_dflt (refine' code_defCV ?k1 ?k2 ?k3 ?k4 ?kO ?k5 ?kA ?kF ?kK ?k6 ?k7 ?k8 ?k9 ?kB ?kD ?_ ?c2 ?c3 ?c4; (case kA => exact rfl); (case kF => exact rfl); (case kK => assumption); (case k1 => k_asm); (case k2 => k_asm); (case k3 => k_asm); (case k4 => k_asm); (case kO => k_asm); (case k5 => k_asm); (case k6 => k_is); (case k7 => k_is); (case k8 => ktr_room); (case k9 => first | exact BindsTo.of_eq rfl | exact binds_K (by k_in) rfl (by k_is) rfl rfl rfl | (refine' kp_binds ?kx ?ke; (case kx => k_in); (case ke => exact fun _ => rfl))); (case kB => exact rfl); (case kD => decide +kernel); (case c2 => exact rfl); (case c3 => exact rfl); (case c4 => exact rfl); k_whole; intro g' L' h' tk' cells' FG' F' N' Y' B' X' T' l1 lim'; (try k_lt l1); k_cells Y'; (try simp only [List.cons_append, List.nil_append] at N'); (try dsimp only); (try k_fold))))
  k_with "m:cl sub" => (first | exact fun _ h => h | exact List.forall_mem_nil _ | kcj_all)
  k_with "m:cl end" => ((refine' cl_end ?h ?N ?F ?N2 ?_ ?_; (case h => assumption); (case N => assumption); (case F => k_asm); (case N2 => k_asm); rotate_left))
  k_with "m:cl int" => ((refine' cl_end ?h ?N ?F ?N2 ?hn (r_int ?_); (case h => assumption); (case N => assumption); (case F => k_asm); (case N2 => k_asm); (case hn => walk_at "cl sub")))
  k_with "m:cl str" => ((refine' cl_end ?h ?N ?F ?N2 ?hn (r_str ?_); (case h => assumption); (case N => assumption); (case F => k_asm); (case N2 => k_asm); (case hn => walk_at "cl sub")))
  k_with "m:cl bool" => ((refine' cl_end ?h ?N ?F ?N2 ?hn (r_bool ?_); (case h => assumption); (case N => assumption); (case F => k_asm); (case N2 => k_asm); (case hn => walk_at "cl sub")))
  k_with "m:call builtin:list.append" => ((k_here; (with_reducible show wpAny _ _ (call (Value.builtin _) [Value.ref _, _]) _ _ _); k_dflt (refine' append_K ?k1 ?k2 ?k3 ?_ ?z; (case k1 => k_asm); (case k2 => k_asm); (case k3 => k_upd); (case z => exact Nat.le_of_ble_eq_true rfl); k_whole); intro h' F' N'; (try k_sweep)))
  k_with "m:call ref" => ((k_here; k_dflt (k_extra "call ref")))
  k_with "m:cl off1" => (first | exact List.forall_mem_nil _ | exact OwnOff.ne (by assumption) (by simp) | (refine List.forall_mem_cons.mpr ⟨?_, ?_⟩ <;> walk_at "cl off1") | k_ne)
  k_with "m:cl off" => ((unfold Off; walk_at "cl off1"))
  k_with "m:cl mem" => (first | exact List.forall_mem_nil _ | (refine List.forall_mem_cons.mpr ⟨by k_mem, ?_⟩; walk_at "cl mem") | (intro p9 h9; kst_mem))
  k_with "m:cl all" => (((try simp only [List.cons_append, List.nil_append, List.append_nil]); walk_at "cl mem"))
  k_with "m:execs cons" => ((k_here; (with_reducible refine tok_add ?_); intro tk; (try dsimp only); (try k_fold)))
  k_with "m:storeName" => ((k_here; first | ((with_reducible refine tok_sp ?_); intro t9) | ((with_reducible refine tok_st ?_); intro t9)))
  k_with "m:newList" => ((k_here; (with_reducible show wpAny _ _ (newList []) _ _ _); k_dflt (refine' newList_L ?k1 ?k2 ?_; (case k1 => k_asm); (case k2 => k_asm); k_whole); intro l' h' F' N' l1 lL1; (try k_lt l1); (try k_sweep)))
  k_with "m:subscriptTail Name Slice ref ref" => ((k_here; (with_reducible show wpAny _ _ (subscriptTail _ (PySem.Expr.Slice _ _ none _) (Value.ref _) (Value.ref _)) _ _ _); k_dflt (refine' slice1 ?s1 ?s2 ?s3 ?s4 ?s5 ?_ ?s6 ?s7; (case s1 => k_asm); (case s2 => k_asm); (case s3 => is_list); (case s4 => with_reducible assumption); (case s5 => with_reducible assumption); (case s6 => with_unfolding_all rfl); (case s7 => (intro _; with_unfolding_all rfl))); intro D7 ys7 h7 F7 N7 l7 I7; (k_lt l7)))
  k_with "m:compareOp Eq ref ref" => ((k_here; (with_reducible show wpAny _ _ (compareOp CmpOp.Eq (Value.ref _) (Value.ref _)) _ _ _); k_dflt (refine' es_eq ?s1 ?s2 ?s3 ?s4 ?o1 ?o2 ?s5 ?_; (case s1 => is_list); (case s2 => is_list); (case s3 => with_reducible assumption); (case s4 => exact .cons _ _ .nil); (case o1 => (k_extra "ok1")); (case o2 => (k_extra "ok2")); (case s5 => ktr_units))))
  k_with "m:subscriptTail Name Name ref int" => ((k_here; (with_reducible show wpAny _ _ (subscriptTail _ _ (Value.ref _) (Value.int _ _)) _ _ _); k_dflt (k_extra "item")))
  k_with "m:call builtin:list.append" => ((k_here; (with_reducible show wpAny _ _ (call (Value.builtin _) [Value.ref _, Value.int _ _]) _ _ _); k_dflt (refine' append_K ?k1 ?k2 ?k3 ?_ ?z; (case k1 => k_asm); (case k2 => k_asm); (case k3 => k_upd); (case z => (rw [List.size_toArray, sizeLine_eq]; have hl9 := KInv.l (by assumption); omega)); k_whole); intro h' F' N'; (try k_sweep)))
  k_with "call ref" => (refine' cl_use (rest := [(wl, listOf wvs.toArray wn)] ++ ((_, _) :: kOwn)) (bisl_cl sl svs sh sn _ _ ?hv ?hl) ?k1 ?kC ?k2 ?k3 ?k4 ?ha ?kO ?k5 ?kK ?kd ?ku ?_; (case k1 => k_asm); (case kC => assumption); (case k2 => k_asm); (case k3 => k_asm); (case k4 => k_asm); (case ha => walk_at "cl all"); (case hv => assumption); (case hl => omega); (case kO => walk_at "cl off"); (case k5 => k_asm); (case kK => first | exact rfl | assumption); (case kd => ktr_room); (case ku => ktr_units); intro lim8 v8 n8 h8 tk8 lt8 R8 F8 N8; (obtain ⟨e8, t8, e8'⟩ := R8); subst e8; subst e8'; (try simp only [List.cons_append, List.nil_append] at N8); (try dsimp only); (try k_fold))
  k_with "pyIter ref" => (k_state_short (fun pre kept => KInv ws sh pre kept) "kept")
  k_with "item" => (refine' item_strs ?it1 ?it2 ?it3 ?it4 ?it5 ?it6; (case it1 => is_list); (case it2 => exact hw); (case it3 => omega); (case it4 => omega); (case it5 => (rw [hw8]; decide)); k_whole; intro t9)
  k_with "ok1" => (exact ok_sl1 hso)
  k_with "ok2" => (exact ok_one hwo (by omega) (by omega))
  k_with "state" => (first | exact ki_0 | exact ki_t (by assumption) (by assumption) | exact ki_f (by assumption) (by assumption))
  k_steps
  have e9 := kInv.e
  change _ = keptF ws sh (rangeKs 0 8) at e9
  rw [← e9] at hret
  refine' cl_end hret N (by k_asm) (by k_asm) ?hn1 ⟨_, _, _, rfl, (by assumption), ?a1, rfl⟩
  case hn1 => walk_at "cl mem"
  case a1 => omega

end
section
abbrev tupOf (vs : List Value) : Obj := { cls := .type "tuple", data := .seq vs.toArray }
noncomputable def RTup (q r : Int) : Addr → Value → List (Addr × Obj) → Prop := fun lim v vis' => ∃ D t u, v = .ref D ∧ @LE.le Nat _ lim D ∧ vis' = [(D, tupOf [.int q t, .int r u])]
theorem rows_a23 : True := by
  k_with_none
  k_with "m:cl enter" => (((refine wpAny_call ?_); k_dflt (refine' code_defV ?k1 ?k2 ?k3 ?k4 ?kO ?k5 ?kA ?kF ?kK ?k6 ?k7 ?k8 ?k9 ?kB ?_ ?c2 ?c3 ?c4 ?c5; (case kA => exact rfl); (case kF => exact rfl); (case kK => assumption); (case k1 => k_asm); (case k2 => k_asm); (case k3 => k_asm); (case k4 => k_asm); (case kO => k_asm); (case k5 => k_asm); (case k6 => k_is); (case k7 => k_is); (case k8 => ktr_room); (case k9 => first | exact BindsTo.of_eq rfl | exact binds_K (by k_in) rfl (by k_is) rfl rfl rfl | (refine' kp_binds ?kx ?ke; (case kx => k_in); (case ke => exact fun _ => rfl))); (case c5 => decide); (case kB => exact locs rfl); (case c2 => exact rfl); (case c3 => exact rfl); (case c4 => exact rfl); k_whole; intro g' L' h' FG' F' N' B' X' T' l1 lim'; (try k_lt l1); (try dsimp only); (try k_fold))))
  k_with "m:cl enterC" => (((refine wpAny_call ?_); k_dflt (refine' code_defCV ?k1 ?k2 ?k3 ?k4 ?kO ?k5 ?kA ?kF ?kK ?k6 ?k7 ?k8 ?k9 ?kB ?kD ?_ ?c2 ?c3 ?c4; (case kA => exact rfl); (case kF => exact rfl); (case kK => assumption); (case k1 => k_asm); (case k2 => k_asm); (case k3 => k_asm); (case k4 => k_asm); (case kO => k_asm); (case k5 => k_asm); (case k6 => k_is); (case k7 => k_is); (case k8 => ktr_room); (case k9 => first | exact BindsTo.of_eq rfl | exact binds_K (by k_in) rfl (by k_is) rfl rfl rfl | (refine' kp_binds ?kx ?ke; (case kx => k_in); (case ke => exact fun _ => rfl))); (case kB => exact rfl); (case kD => decide +kernel); (case c2 => exact rfl); (case c3 => exact rfl); (case c4 => exact rfl); k_whole; intro g' L' h' tk' cells' FG' F' N' Y' B' X' T' l1 lim'; (try k_lt l1); k_cells Y'; (try simp only [List.cons_append, List.nil_append] at N'); (try dsimp only); (try k_fold))))
  k_with "m:cl sub" => (first | exact fun _ h => h | exact List.forall_mem_nil _ | kcj_all)
  k_with "m:cl end" => ((refine' cl_end ?h ?N ?F ?N2 ?_ ?_; (case h => assumption); (case N => assumption); (case F => k_asm); (case N2 => k_asm); rotate_left))
  k_with "m:cl int" => ((refine' cl_end ?h ?N ?F ?N2 ?hn (r_int ?_); (case h => assumption); (case N => assumption); (case F => k_asm); (case N2 => k_asm); (case hn => walk_at "cl sub")))
  k_with "m:cl str" => ((refine' cl_end ?h ?N ?F ?N2 ?hn (r_str ?_); (case h => assumption); (case N => assumption); (case F => k_asm); (case N2 => k_asm); (case hn => walk_at "cl sub")))
  k_with "m:cl bool" => ((refine' cl_end ?h ?N ?F ?N2 ?hn (r_bool ?_); (case h => assumption); (case N => assumption); (case F => k_asm); (case N2 => k_asm); (case hn => walk_at "cl sub")))
  k_with "m:call builtin:list.append" => ((k_here; (with_reducible show wpAny _ _ (call (Value.builtin _) [Value.ref _, _]) _ _ _); k_dflt (refine' append_K ?k1 ?k2 ?k3 ?_ ?z; (case k1 => k_asm); (case k2 => k_asm); (case k3 => k_upd); (case z => exact Nat.le_of_ble_eq_true rfl); k_whole); intro h' F' N'; (try k_sweep)))
  k_with "m:call ref" => ((k_here; k_dflt (k_extra "call ref")))
  k_with "m:cl off1" => (first | exact List.forall_mem_nil _ | exact OwnOff.ne (by assumption) (by simp) | (refine List.forall_mem_cons.mpr ⟨?_, ?_⟩ <;> walk_at "cl off1") | k_ne)
  k_with "m:cl off" => ((unfold Off; walk_at "cl off1"))
  k_with "m:cl mem" => (first | exact List.forall_mem_nil _ | (refine List.forall_mem_cons.mpr ⟨by k_mem, ?_⟩; walk_at "cl mem") | (intro p9 h9; kst_mem))
  k_with "m:cl all" => (((try simp only [List.cons_append, List.nil_append, List.append_nil]); walk_at "cl mem"))
  k_with "m:execs cons" => ((k_here; (with_reducible refine tok_add ?_); intro tk; (try dsimp only); (try k_fold)))
  k_with "m:storeName" => ((k_here; first | ((with_reducible refine tok_sp ?_); intro t9) | ((with_reducible refine tok_st ?_); intro t9)))
  trivial
theorem bits_lt {a : Int} {k : Nat} (h0 : 0 ≤ a) (h : a < 2 ^ k) : Builtin.Int.intBits a ≤ k := intBits_le_iff.mpr (by
  obtain ⟨n, rfl⟩ := Int.eq_ofNat_of_zero_le h0
  rw [Int.natAbs_natCast]
  exact_mod_cast h)
theorem div21_cl (a : Int) (ta tb tn : Tok) (ha : 0 ≤ a ∧ a < 131072) :
    Cl w p loose mean mg mb 52 10 60 [.int a ta, .int 256 tb, .int 9 tn] [] (RTup (a.fdiv 256) (a.fmod 256)) := by
  unfold Cl
  k_fill
  intro rest dp un gd cn cs a₀ ccd cl outer A₀ base h₀ L m s Q E B CD F X N O T hk hd hu hret
  have hb := bits_lt (k := 17) ha.1 ha.2
  walk_at "cl enter"
  k_with_none
  k_with "m:cl enter" => (((refine wpAny_call ?_); k_dflt (refine' code_defV ?k1 ?k2 ?k3 ?k4 ?kO ?k5 ?kA ?kF ?kK ?k6 ?k7 ?k8 ?k9 ?kB ?_ ?c2 ?c3 ?c4 ?c5; (case kA => exact rfl); (case kF => exact rfl); (case kK => assumption); (case k1 => k_asm); (case k2 => k_asm); (case k3 => k_asm); (case k4 => k_asm); (case kO => k_asm); (case k5 => k_asm); (case k6 => k_is); (case k7 => k_is); (case k8 => ktr_room); (case k9 => first | exact BindsTo.of_eq rfl | exact binds_K (by k_in) rfl (by k_is) rfl rfl rfl | (refine' kp_binds ?kx ?ke; (case kx => k_in); (case ke => exact fun _ => rfl))); (case c5 => decide); (case kB => exact locs rfl); (case c2 => exact rfl); (case c3 => exact rfl); (case c4 => exact rfl); k_whole; intro g' L' h' FG' F' N' B' X' T' l1 lim'; (try k_lt l1); (try dsimp only); (try k_fold))))
  k_with "m:cl enterC" => (((refine wpAny_call ?_); k_dflt (refine' code_defCV ?k1 ?k2 ?k3 ?k4 ?kO ?k5 ?kA ?kF ?kK ?k6 ?k7 ?k8 ?k9 ?kB ?kD ?_ ?c2 ?c3 ?c4; (case kA => exact rfl); (case kF => exact rfl); (case kK => assumption); (case k1 => k_asm); (case k2 => k_asm); (case k3 => k_asm); (case k4 => k_asm); (case kO => k_asm); (case k5 => k_asm); (case k6 => k_is); (case k7 => k_is); (case k8 => ktr_room); (case k9 => first | exact BindsTo.of_eq rfl | exact binds_K (by k_in) rfl (by k_is) rfl rfl rfl | (refine' kp_binds ?kx ?ke; (case kx => k_in); (case ke => exact fun _ => rfl))); (case kB => exact rfl); (case kD => decide +kernel); (case c2 => exact rfl); (case c3 => exact rfl); (case c4 => exact rfl); k_whole; intro g' L' h' tk' cells' FG' F' N' Y' B' X' T' l1 lim'; (try k_lt l1); k_cells Y'; (try simp only [List.cons_append, List.nil_append] at N'); (try dsimp only); (try k_fold))))
  k_with "m:cl sub" => (first | exact fun _ h => h | exact List.forall_mem_nil _ | kcj_all)
  k_with "m:cl end" => ((refine' cl_end ?h ?N ?F ?N2 ?_ ?_; (case h => assumption); (case N => assumption); (case F => k_asm); (case N2 => k_asm); rotate_left))
  k_with "m:cl int" => ((refine' cl_end ?h ?N ?F ?N2 ?hn (r_int ?_); (case h => assumption); (case N => assumption); (case F => k_asm); (case N2 => k_asm); (case hn => walk_at "cl sub")))
  k_with "m:cl str" => ((refine' cl_end ?h ?N ?F ?N2 ?hn (r_str ?_); (case h => assumption); (case N => assumption); (case F => k_asm); (case N2 => k_asm); (case hn => walk_at "cl sub")))
  k_with "m:cl bool" => ((refine' cl_end ?h ?N ?F ?N2 ?hn (r_bool ?_); (case h => assumption); (case N => assumption); (case F => k_asm); (case N2 => k_asm); (case hn => walk_at "cl sub")))
  k_with "m:call builtin:list.append" => ((k_here; (with_reducible show wpAny _ _ (call (Value.builtin _) [Value.ref _, _]) _ _ _); k_dflt (refine' append_K ?k1 ?k2 ?k3 ?_ ?z; (case k1 => k_asm); (case k2 => k_asm); (case k3 => k_upd); (case z => exact Nat.le_of_ble_eq_true rfl); k_whole); intro h' F' N'; (try k_sweep)))
  k_with "m:call ref" => ((k_here; k_dflt (k_extra "call ref")))
  k_with "m:cl off1" => (first | exact List.forall_mem_nil _ | exact OwnOff.ne (by assumption) (by simp) | (refine List.forall_mem_cons.mpr ⟨?_, ?_⟩ <;> walk_at "cl off1") | k_ne)
  k_with "m:cl off" => ((unfold Off; walk_at "cl off1"))
  k_with "m:cl mem" => (first | exact List.forall_mem_nil _ | (refine List.forall_mem_cons.mpr ⟨by k_mem, ?_⟩; walk_at "cl mem") | (intro p9 h9; kst_mem))
  k_with "m:cl all" => (((try simp only [List.cons_append, List.nil_append, List.append_nil]); walk_at "cl mem"))
  k_with "m:execs cons" => ((k_here; (with_reducible refine tok_add ?_); intro tk; (try dsimp only); (try k_fold)))
  k_with "m:storeName" => ((k_here; first | ((with_reducible refine tok_sp ?_); intro t9) | ((with_reducible refine tok_st ?_); intro t9)))
  k_steps
  refine' cl_end hret N (by k_asm) (by k_asm) ?hn1 ⟨_, _, _, rfl, ?a1, rfl⟩
  case a1 => exact Nat.le_trans (by assumption) (Nat.le_of_lt (Heap.Ns.lt (Fr.ns (by assumption))))
  case hn1 => walk_at "cl mem"

end
section
/-- what _digits2int's inner def gives of the digits from lo up to hi -/
noncomputable def dInt (n : Int) : Nat → Int → Int → List Int → Int
  | 0, _, _, _ => 0
  | f + 1, lo, hi, ds => if lo + 1 = hi then ds.getD lo.toNat 0 else
      dInt n f ((lo + hi).fdiv (2 ^ Int.toNat 1)) hi ds * 2 ^ (((lo + hi).fdiv (2 ^ Int.toNat 1) - lo) * n).toNat + dInt n f lo ((lo + hi).fdiv (2 ^ Int.toNat 1)) ds
noncomputable def DB (ds : List Int) : Prop := ∀ i, 0 ≤ ds.getD i 0 ∧ ds.getD i 0 < 65536
theorem rows_a24 : True := by
  k_with_none
  k_with "m:cl enter" => (((refine wpAny_call ?_); k_dflt (refine' code_defV ?k1 ?k2 ?k3 ?k4 ?kO ?k5 ?kA ?kF ?kK ?k6 ?k7 ?k8 ?k9 ?kB ?_ ?c2 ?c3 ?c4 ?c5; (case kA => exact rfl); (case kF => exact rfl); (case kK => assumption); (case k1 => k_asm); (case k2 => k_asm); (case k3 => k_asm); (case k4 => k_asm); (case kO => k_asm); (case k5 => k_asm); (case k6 => k_is); (case k7 => k_is); (case k8 => ktr_room); (case k9 => first | exact BindsTo.of_eq rfl | exact binds_K (by k_in) rfl (by k_is) rfl rfl rfl | (refine' kp_binds ?kx ?ke; (case kx => k_in); (case ke => exact fun _ => rfl))); (case c5 => decide); (case kB => exact locs rfl); (case c2 => exact rfl); (case c3 => exact rfl); (case c4 => exact rfl); k_whole; intro g' L' h' FG' F' N' B' X' T' l1 lim'; (try k_lt l1); (try dsimp only); (try k_fold))))
  k_with "m:cl enterC" => (((refine wpAny_call ?_); k_dflt (refine' code_defCV ?k1 ?k2 ?k3 ?k4 ?kO ?k5 ?kA ?kF ?kK ?k6 ?k7 ?k8 ?k9 ?kB ?kD ?_ ?c2 ?c3 ?c4; (case kA => exact rfl); (case kF => exact rfl); (case kK => assumption); (case k1 => k_asm); (case k2 => k_asm); (case k3 => k_asm); (case k4 => k_asm); (case kO => k_asm); (case k5 => k_asm); (case k6 => k_is); (case k7 => k_is); (case k8 => ktr_room); (case k9 => first | exact BindsTo.of_eq rfl | exact binds_K (by k_in) rfl (by k_is) rfl rfl rfl | (refine' kp_binds ?kx ?ke; (case kx => k_in); (case ke => exact fun _ => rfl))); (case kB => exact rfl); (case kD => decide +kernel); (case c2 => exact rfl); (case c3 => exact rfl); (case c4 => exact rfl); k_whole; intro g' L' h' tk' cells' FG' F' N' Y' B' X' T' l1 lim'; (try k_lt l1); k_cells Y'; (try simp only [List.cons_append, List.nil_append] at N'); (try dsimp only); (try k_fold))))
  k_with "m:cl sub" => (first | exact fun _ h => h | exact List.forall_mem_nil _ | kcj_all)
  k_with "m:cl end" => ((refine' cl_end ?h ?N ?F ?N2 ?_ ?_; (case h => assumption); (case N => assumption); (case F => k_asm); (case N2 => k_asm); rotate_left))
  k_with "m:cl int" => ((refine' cl_end ?h ?N ?F ?N2 ?hn (r_int ?_); (case h => assumption); (case N => assumption); (case F => k_asm); (case N2 => k_asm); (case hn => walk_at "cl sub")))
  k_with "m:cl str" => ((refine' cl_end ?h ?N ?F ?N2 ?hn (r_str ?_); (case h => assumption); (case N => assumption); (case F => k_asm); (case N2 => k_asm); (case hn => walk_at "cl sub")))
  k_with "m:cl bool" => ((refine' cl_end ?h ?N ?F ?N2 ?hn (r_bool ?_); (case h => assumption); (case N => assumption); (case F => k_asm); (case N2 => k_asm); (case hn => walk_at "cl sub")))
  k_with "m:call builtin:list.append" => ((k_here; (with_reducible show wpAny _ _ (call (Value.builtin _) [Value.ref _, _]) _ _ _); k_dflt (refine' append_K ?k1 ?k2 ?k3 ?_ ?z; (case k1 => k_asm); (case k2 => k_asm); (case k3 => k_upd); (case z => exact Nat.le_of_ble_eq_true rfl); k_whole); intro h' F' N'; (try k_sweep)))
  k_with "m:call ref" => ((k_here; k_dflt (k_extra "call ref")))
  k_with "m:cl off1" => (first | exact List.forall_mem_nil _ | exact OwnOff.ne (by assumption) (by simp) | (refine List.forall_mem_cons.mpr ⟨?_, ?_⟩ <;> walk_at "cl off1") | k_ne)
  k_with "m:cl off" => ((unfold Off; walk_at "cl off1"))
  k_with "m:cl mem" => (first | exact List.forall_mem_nil _ | (refine List.forall_mem_cons.mpr ⟨by k_mem, ?_⟩; walk_at "cl mem") | (intro p9 h9; kst_mem))
  k_with "m:cl all" => (((try simp only [List.cons_append, List.nil_append, List.append_nil]); walk_at "cl mem"))
  k_with "m:execs cons" => ((k_here; (with_reducible refine tok_add ?_); intro tk; (try dsimp only); (try k_fold)))
  k_with "m:storeName" => ((k_here; first | ((with_reducible refine tok_sp ?_); intro t9) | ((with_reducible refine tok_st ?_); intro t9)))
  trivial
theorem dInt_b {n : Int} {d : Nat} {lo hi : Int} {ds : List Int} (hb : DB ds) (h : lo + 1 = hi) (hd : 0 < d) : 0 ≤ dInt n d lo hi ds ∧ dInt n d lo hi ds < 65536 := by
  cases d with
  | zero => omega
  | succ d => rw [dInt, if_pos h]; exact hb _
abbrev visD (f c cA cI cN D : Addr) (fo oc oA oI oN : Obj) (vs : List Value) (k : Nat) : List (Addr × Obj) := [(D, listOf vs.toArray k), (f, fo), (c, oc), (cA, oA), (cI, oI), (cN, oN)]
noncomputable def DSpec (w : World) (p : Program) (loose : List Str) (mean : ExcName → Option Value) (mg mb : Str → Option Value) (n : Int) (f c cA cI cN D : Addr) (fo oc oA oI oN : Obj) (vs : List Value) (ds : List Int) (k : Nat) (d : Nat) : Prop :=
  ∀ (lo hi : Int) (tl th : Tok), 0 ≤ lo → lo < hi → hi ≤ (ds.length : Int) → hi - lo ≤ (d : Int) →
    Cl w p loose mean mg mb f (2 * d + 2) (20 * d + 20) [.int lo tl, .int hi th] (visD f c cA cI cN D fo oc oA oI oN vs k)
      (RInt (visD f c cA cI cN D fo oc oA oI oN vs k) (dInt n d lo hi ds))
theorem dSpec_zero {n : Int} {f c cA cI cN D : Addr} {fo oc oA oI oN : Obj} {vs : List Value} {ds : List Int} {k : Nat} : DSpec w p loose mean mg mb n f c cA cI cN D fo oc oA oI oN vs ds k 0 := fun lo hi _ _ _ h _ hd => absurd h (by omega)
noncomputable def innerParts2 (P : Params) : Option (Arguments × List Stmt × Scope) := match (hd.heap_39 P).lookup 73 with
  | some ⟨_, _, .func fd, _⟩ => (match fd.body with
    | .stmts (.FunctionDef _ ps b _ _ _ sc _ _ _ :: _) => some (ps, b, sc)
    | _ => none)
  | _ => none
theorem rows_a25 : True := by
  k_with_none
  k_with "m:cl enter" => (((refine wpAny_call ?_); k_dflt (refine' code_defV ?k1 ?k2 ?k3 ?k4 ?kO ?k5 ?kA ?kF ?kK ?k6 ?k7 ?k8 ?k9 ?kB ?_ ?c2 ?c3 ?c4 ?c5; (case kA => exact rfl); (case kF => exact rfl); (case kK => assumption); (case k1 => k_asm); (case k2 => k_asm); (case k3 => k_asm); (case k4 => k_asm); (case kO => k_asm); (case k5 => k_asm); (case k6 => k_is); (case k7 => k_is); (case k8 => ktr_room); (case k9 => first | exact BindsTo.of_eq rfl | exact binds_K (by k_in) rfl (by k_is) rfl rfl rfl | (refine' kp_binds ?kx ?ke; (case kx => k_in); (case ke => exact fun _ => rfl))); (case c5 => decide); (case kB => exact locs rfl); (case c2 => exact rfl); (case c3 => exact rfl); (case c4 => exact rfl); k_whole; intro g' L' h' FG' F' N' B' X' T' l1 lim'; (try k_lt l1); (try dsimp only); (try k_fold))))
  k_with "m:cl enterC" => (((refine wpAny_call ?_); k_dflt (refine' code_defCV ?k1 ?k2 ?k3 ?k4 ?kO ?k5 ?kA ?kF ?kK ?k6 ?k7 ?k8 ?k9 ?kB ?kD ?_ ?c2 ?c3 ?c4; (case kA => exact rfl); (case kF => exact rfl); (case kK => assumption); (case k1 => k_asm); (case k2 => k_asm); (case k3 => k_asm); (case k4 => k_asm); (case kO => k_asm); (case k5 => k_asm); (case k6 => k_is); (case k7 => k_is); (case k8 => ktr_room); (case k9 => first | exact BindsTo.of_eq rfl | exact binds_K (by k_in) rfl (by k_is) rfl rfl rfl | (refine' kp_binds ?kx ?ke; (case kx => k_in); (case ke => exact fun _ => rfl))); (case kB => exact rfl); (case kD => decide +kernel); (case c2 => exact rfl); (case c3 => exact rfl); (case c4 => exact rfl); k_whole; intro g' L' h' tk' cells' FG' F' N' Y' B' X' T' l1 lim'; (try k_lt l1); k_cells Y'; (try simp only [List.cons_append, List.nil_append] at N'); (try dsimp only); (try k_fold))))
  k_with "m:cl sub" => (first | exact fun _ h => h | exact List.forall_mem_nil _ | kcj_all)
  k_with "m:cl end" => ((refine' cl_end ?h ?N ?F ?N2 ?_ ?_; (case h => assumption); (case N => assumption); (case F => k_asm); (case N2 => k_asm); rotate_left))
  k_with "m:cl int" => ((refine' cl_end ?h ?N ?F ?N2 ?hn (r_int ?_); (case h => assumption); (case N => assumption); (case F => k_asm); (case N2 => k_asm); (case hn => walk_at "cl sub")))
  k_with "m:cl str" => ((refine' cl_end ?h ?N ?F ?N2 ?hn (r_str ?_); (case h => assumption); (case N => assumption); (case F => k_asm); (case N2 => k_asm); (case hn => walk_at "cl sub")))
  k_with "m:cl bool" => ((refine' cl_end ?h ?N ?F ?N2 ?hn (r_bool ?_); (case h => assumption); (case N => assumption); (case F => k_asm); (case N2 => k_asm); (case hn => walk_at "cl sub")))
  k_with "m:call builtin:list.append" => ((k_here; (with_reducible show wpAny _ _ (call (Value.builtin _) [Value.ref _, _]) _ _ _); k_dflt (refine' append_K ?k1 ?k2 ?k3 ?_ ?z; (case k1 => k_asm); (case k2 => k_asm); (case k3 => k_upd); (case z => exact Nat.le_of_ble_eq_true rfl); k_whole); intro h' F' N'; (try k_sweep)))
  k_with "m:call ref" => ((k_here; k_dflt (k_extra "call ref")))
  k_with "m:cl off1" => (first | exact List.forall_mem_nil _ | exact OwnOff.ne (by assumption) (by simp) | (refine List.forall_mem_cons.mpr ⟨?_, ?_⟩ <;> walk_at "cl off1") | k_ne)
  k_with "m:cl off" => ((unfold Off; walk_at "cl off1"))
  k_with "m:cl mem" => (first | exact List.forall_mem_nil _ | (refine List.forall_mem_cons.mpr ⟨by k_mem, ?_⟩; walk_at "cl mem") | (intro p9 h9; kst_mem))
  k_with "m:cl all" => (((try simp only [List.cons_append, List.nil_append, List.append_nil]); walk_at "cl mem"))
  k_with "m:execs cons" => ((k_here; (with_reducible refine tok_add ?_); intro tk; (try dsimp only); (try k_fold)))
  k_with "m:storeName" => ((k_here; first | ((with_reducible refine tok_sp ?_); intro t9) | ((with_reducible refine tok_st ?_); intro t9)))
  k_with "m:cl enterN" => (((refine wpAny_call ?_); k_dflt (refine' code_nestV ?k1 ?k2 ?k3 ?k4 ?kO ?k5 ?kA ?kF ?kK ?k6 (codeRec_news ?k4 (List.mem_append_left _ ?kM) ?hoc ?hq) ?k8 ?k9 ?kB ?_ ?c2 ?c3 ?c4 ?c5; (case kA => exact rfl); (case kF => exact rfl); (case kK => assumption); (case k1 => k_asm); (case k2 => k_asm); (case k3 => k_asm); (case k4 => k_asm); (case kO => k_asm); (case k5 => k_asm); (case k6 => k_mem); (case kM => k_mem); (case hoc => assumption); (case hq => assumption); (case k8 => ktr_room); (case k9 => exact BindsTo.of_eq rfl); (case c5 => decide); (case kB => exact locs rfl); (case c2 => exact rfl); (case c3 => exact rfl); (case c4 => exact rfl); k_whole; intro g' L' h' FG' F' N' B' X' T' l1 lim'; (try k_lt l1); (try dsimp only); (try k_fold))))
  k_with "m:binaryOp LShift int int" => ((k_here; (refine' lshift_int_small ?a ?b ?c ?_; (case a => omega); (case b => omega); (case c => omega))))
  k_with "m:in all" => (((simp only [List.append_nil]); (refine List.forall_mem_cons.mpr ⟨by k_mem, ?_⟩); (refine List.forall_mem_cons.mpr ⟨by k_mem, ?_⟩); (refine List.forall_mem_cons.mpr ⟨by k_mem, ?_⟩); (refine List.forall_mem_cons.mpr ⟨by k_mem, ?_⟩); (refine List.forall_mem_cons.mpr ⟨by k_mem, ?_⟩); (refine List.forall_mem_cons.mpr ⟨by k_mem, ?_⟩); exact List.forall_mem_nil _))
  k_with "m:call ref" => ((k_here; (rename DSpec _ _ _ _ _ _ _ _ _ _ _ _ _ _ _ _ _ _ _ _ _ _ => IH9); k_dflt (refine' cl_use (rest := []) (IH9 _ _ _ _ ?h2 ?h3 ?h4 ?h5) ?k1 ?kC ?k2 ?k3 ?k4 ?ha ?kO ?k5 ?kK ?kd ?ku ?_; (case k1 => k_asm); (case kC => exact And.intro (by assumption) (by assumption)); (case k2 => k_asm); (case k3 => k_asm); (case k4 => k_asm); (case ha => walk_at "in all"); (case h2 => omega); (case h3 => omega); (case h4 => omega); (case h5 => omega); (case kO => exact off_nil); (case k5 => k_asm); (case kK => first | exact rfl | assumption); (case kd => ktr_room); (case ku => ktr_units)); intro lim9 v9 n9 h9 tk9 lt9 R9 F9 N9; (obtain ⟨e9', t9, e9⟩ := R9); subst e9; subst e9'; (try simp only [List.append_nil] at N9); (try dsimp only); (try k_fold)))
  trivial
set_option maxHeartbeats 2000000 in
theorem d_step {params : Arguments} {body : List Stmt} {scope : Scope} (hp : innerParts2 w.params = some (params, body, scope)) {n : Int} (hn : 1 ≤ n ∧ n ≤ 9) {qual : Str} {f c cA cI cN D : Addr} {oc oA oI oN : Obj} {ocv : Array Value} {t tN : Tok} {doc pm ctv : Value} {vs : List Value} {ds : List Int} {k : Nat}
    (hv : IntsAre vs ds) (hl : ds.length ≤ 2) (hb : DB ds)
    (hoc : oc.data = .fields ocv) (hq : ocv[1]? = some (.str qual t)) (hA : oA.data = .cell (some (.ref D))) (hI : oI.data = .cell (some (.ref f))) (hN : oN.data = .cell (some (.int n tN))) (hne : @Ne Nat f D ∧ @Ne Nat c D ∧ @Ne Nat cA D ∧ @Ne Nat cI D ∧ @Ne Nat cN D) (d : Nat)
    (IH : DSpec w p loose mean mg mb n f c cA cI cN D (fnMade "inner" qual params body scope [("n", cN), ("inner", cI), ("digits", cA)] doc pm c ctv) oc oA oI oN vs ds k d) :
    DSpec w p loose mean mg mb n f c cA cI cN D (fnMade "inner" qual params body scope [("n", cN), ("inner", cI), ("digits", cA)] doc pm c ctv) oc oA oI oN vs ds k (d + 1) := by
  have e : innerParts2 w.params = some (_, _, _) := rfl
  rw [e] at hp
  injection hp with hp
  injection hp with h1 hp
  injection hp with h2 h3
  subst h1 h2 h3
  intro lo hi tl th hl0 hl1 hl2 hd9
  unfold Cl
  k_fill
  intro rest dp un gd cn cs a ccd cl outer A₀ base h₀ L m s Q E B CD F X N O T hk hd hu hret
  obtain ⟨C1, C2⟩ := CD
  have hM := mid_f hl1
  have hS := prod_in (a := (lo + hi).fdiv (2 ^ Int.toNat 1) - lo) (n := n) (by omega) (by omega) hn
  have hB : lo + 1 ≠ hi → 0 ≤ dInt n d ((lo + hi).fdiv (2 ^ Int.toNat 1)) hi ds ∧ dInt n d ((lo + hi).fdiv (2 ^ Int.toNat 1)) hi ds < 65536 := fun h => dInt_b hb (by omega) (by omega)
  walk_at "cl enterN"
  k_steps
  · refine' cl_end hret N (by k_asm) (by k_asm) ?hn1 ⟨rfl, _, ?hi1⟩
    case hi1 => rw [dInt, if_pos (by assumption)]
    case hn1 => kcj_all
  · refine' cl_end hret N (by k_asm) (by k_asm) ?hn2 ⟨rfl, _, ?hi2⟩
    case hi2 => rw [dInt, if_neg (by assumption)]
    case hn2 => kcj_all

end
section
theorem rows_a26 : True := by
  k_with_none
  k_with "m:cl enter" => (((refine wpAny_call ?_); k_dflt (refine' code_defV ?k1 ?k2 ?k3 ?k4 ?kO ?k5 ?kA ?kF ?kK ?k6 ?k7 ?k8 ?k9 ?kB ?_ ?c2 ?c3 ?c4 ?c5; (case kA => exact rfl); (case kF => exact rfl); (case kK => assumption); (case k1 => k_asm); (case k2 => k_asm); (case k3 => k_asm); (case k4 => k_asm); (case kO => k_asm); (case k5 => k_asm); (case k6 => k_is); (case k7 => k_is); (case k8 => ktr_room); (case k9 => first | exact BindsTo.of_eq rfl | exact binds_K (by k_in) rfl (by k_is) rfl rfl rfl | (refine' kp_binds ?kx ?ke; (case kx => k_in); (case ke => exact fun _ => rfl))); (case c5 => decide); (case kB => exact locs rfl); (case c2 => exact rfl); (case c3 => exact rfl); (case c4 => exact rfl); k_whole; intro g' L' h' FG' F' N' B' X' T' l1 lim'; (try k_lt l1); (try dsimp only); (try k_fold))))
  k_with "m:cl enterC" => (((refine wpAny_call ?_); k_dflt (refine' code_defCV ?k1 ?k2 ?k3 ?k4 ?kO ?k5 ?kA ?kF ?kK ?k6 ?k7 ?k8 ?k9 ?kB ?kD ?_ ?c2 ?c3 ?c4; (case kA => exact rfl); (case kF => exact rfl); (case kK => assumption); (case k1 => k_asm); (case k2 => k_asm); (case k3 => k_asm); (case k4 => k_asm); (case kO => k_asm); (case k5 => k_asm); (case k6 => k_is); (case k7 => k_is); (case k8 => ktr_room); (case k9 => first | exact BindsTo.of_eq rfl | exact binds_K (by k_in) rfl (by k_is) rfl rfl rfl | (refine' kp_binds ?kx ?ke; (case kx => k_in); (case ke => exact fun _ => rfl))); (case kB => exact rfl); (case kD => decide +kernel); (case c2 => exact rfl); (case c3 => exact rfl); (case c4 => exact rfl); k_whole; intro g' L' h' tk' cells' FG' F' N' Y' B' X' T' l1 lim'; (try k_lt l1); k_cells Y'; (try simp only [List.cons_append, List.nil_append] at N'); (try dsimp only); (try k_fold))))
  k_with "m:cl sub" => (first | exact fun _ h => h | exact List.forall_mem_nil _ | kcj_all)
  k_with "m:cl end" => ((refine' cl_end ?h ?N ?F ?N2 ?_ ?_; (case h => assumption); (case N => assumption); (case F => k_asm); (case N2 => k_asm); rotate_left))
  k_with "m:cl int" => ((refine' cl_end ?h ?N ?F ?N2 ?hn (r_int ?_); (case h => assumption); (case N => assumption); (case F => k_asm); (case N2 => k_asm); (case hn => walk_at "cl sub")))
  k_with "m:cl str" => ((refine' cl_end ?h ?N ?F ?N2 ?hn (r_str ?_); (case h => assumption); (case N => assumption); (case F => k_asm); (case N2 => k_asm); (case hn => walk_at "cl sub")))
  k_with "m:cl bool" => ((refine' cl_end ?h ?N ?F ?N2 ?hn (r_bool ?_); (case h => assumption); (case N => assumption); (case F => k_asm); (case N2 => k_asm); (case hn => walk_at "cl sub")))
  k_with "m:call builtin:list.append" => ((k_here; (with_reducible show wpAny _ _ (call (Value.builtin _) [Value.ref _, _]) _ _ _); k_dflt (refine' append_K ?k1 ?k2 ?k3 ?_ ?z; (case k1 => k_asm); (case k2 => k_asm); (case k3 => k_upd); (case z => exact Nat.le_of_ble_eq_true rfl); k_whole); intro h' F' N'; (try k_sweep)))
  k_with "m:call ref" => ((k_here; k_dflt (k_extra "call ref")))
  k_with "m:cl off1" => (first | exact List.forall_mem_nil _ | exact OwnOff.ne (by assumption) (by simp) | (refine List.forall_mem_cons.mpr ⟨?_, ?_⟩ <;> walk_at "cl off1") | k_ne)
  k_with "m:cl off" => ((unfold Off; walk_at "cl off1"))
  k_with "m:cl mem" => (first | exact List.forall_mem_nil _ | (refine List.forall_mem_cons.mpr ⟨by k_mem, ?_⟩; walk_at "cl mem") | (intro p9 h9; kst_mem))
  k_with "m:cl all" => (((try simp only [List.cons_append, List.nil_append, List.append_nil]); walk_at "cl mem"))
  k_with "m:execs cons" => ((k_here; (with_reducible refine tok_add ?_); intro tk; (try dsimp only); (try k_fold)))
  k_with "m:storeName" => ((k_here; first | ((with_reducible refine tok_sp ?_); intro t9) | ((with_reducible refine tok_st ?_); intro t9)))
  trivial
theorem d_all {params : Arguments} {body : List Stmt} {scope : Scope} (hp : innerParts2 w.params = some (params, body, scope)) {n : Int} (hn : 1 ≤ n ∧ n ≤ 9) {qual : Str} {f c cA cI cN D : Addr} {oc oA oI oN : Obj} {ocv : Array Value} {t tN : Tok} {doc pm ctv : Value} {vs : List Value} {ds : List Int} {k : Nat}
    (hv : IntsAre vs ds) (hl : ds.length ≤ 2) (hb : DB ds)
    (hoc : oc.data = .fields ocv) (hq : ocv[1]? = some (.str qual t)) (hA : oA.data = .cell (some (.ref D))) (hI : oI.data = .cell (some (.ref f))) (hN : oN.data = .cell (some (.int n tN))) (hne : @Ne Nat f D ∧ @Ne Nat c D ∧ @Ne Nat cA D ∧ @Ne Nat cI D ∧ @Ne Nat cN D) :
    ∀ d, DSpec w p loose mean mg mb n f c cA cI cN D (fnMade "inner" qual params body scope [("n", cN), ("inner", cI), ("digits", cA)] doc pm c ctv) oc oA oI oN vs ds k d
  | 0 => dSpec_zero
  | d + 1 => d_step hp hn hv hl hb hoc hq hA hI hN hne d (d_all hp hn hv hl hb hoc hq hA hI hN hne d)
noncomputable def RI (x : Int) : Addr → Value → List (Addr × Obj) → Prop := fun _ v vis' => vis' = [] ∧ ∃ t, v = .int x t
/-- an int; the table of the codes has grown -/
noncomputable def RJ (x : Int) : Addr → Value → List (Addr × Obj) → Prop := fun _ v vis' => ∃ ps t, v = .int x t ∧ vis' = [(68, tabObj ps)]
theorem rows_a27 : True := by
  k_with_none
  k_with "m:cl enter" => (((refine wpAny_call ?_); k_dflt (refine' code_defV ?k1 ?k2 ?k3 ?k4 ?kO ?k5 ?kA ?kF ?kK ?k6 ?k7 ?k8 ?k9 ?kB ?_ ?c2 ?c3 ?c4 ?c5; (case kA => exact rfl); (case kF => exact rfl); (case kK => assumption); (case k1 => k_asm); (case k2 => k_asm); (case k3 => k_asm); (case k4 => k_asm); (case kO => k_asm); (case k5 => k_asm); (case k6 => k_is); (case k7 => k_is); (case k8 => ktr_room); (case k9 => first | exact BindsTo.of_eq rfl | exact binds_K (by k_in) rfl (by k_is) rfl rfl rfl | (refine' kp_binds ?kx ?ke; (case kx => k_in); (case ke => exact fun _ => rfl))); (case c5 => decide); (case kB => exact locs rfl); (case c2 => exact rfl); (case c3 => exact rfl); (case c4 => exact rfl); k_whole; intro g' L' h' FG' F' N' B' X' T' l1 lim'; (try k_lt l1); (try dsimp only); (try k_fold))))
  k_with "m:cl enterC" => (((refine wpAny_call ?_); k_dflt (refine' code_defCV ?k1 ?k2 ?k3 ?k4 ?kO ?k5 ?kA ?kF ?kK ?k6 ?k7 ?k8 ?k9 ?kB ?kD ?_ ?c2 ?c3 ?c4; (case kA => exact rfl); (case kF => exact rfl); (case kK => assumption); (case k1 => k_asm); (case k2 => k_asm); (case k3 => k_asm); (case k4 => k_asm); (case kO => k_asm); (case k5 => k_asm); (case k6 => k_is); (case k7 => k_is); (case k8 => ktr_room); (case k9 => first | exact BindsTo.of_eq rfl | exact binds_K (by k_in) rfl (by k_is) rfl rfl rfl | (refine' kp_binds ?kx ?ke; (case kx => k_in); (case ke => exact fun _ => rfl))); (case kB => exact rfl); (case kD => decide +kernel); (case c2 => exact rfl); (case c3 => exact rfl); (case c4 => exact rfl); k_whole; intro g' L' h' tk' cells' FG' F' N' Y' B' X' T' l1 lim'; (try k_lt l1); k_cells Y'; (try simp only [List.cons_append, List.nil_append] at N'); (try dsimp only); (try k_fold))))
  k_with "m:cl sub" => (first | exact fun _ h => h | exact List.forall_mem_nil _ | kcj_all)
  k_with "m:cl end" => ((refine' cl_end ?h ?N ?F ?N2 ?_ ?_; (case h => assumption); (case N => assumption); (case F => k_asm); (case N2 => k_asm); rotate_left))
  k_with "m:cl int" => ((refine' cl_end ?h ?N ?F ?N2 ?hn (r_int ?_); (case h => assumption); (case N => assumption); (case F => k_asm); (case N2 => k_asm); (case hn => walk_at "cl sub")))
  k_with "m:cl str" => ((refine' cl_end ?h ?N ?F ?N2 ?hn (r_str ?_); (case h => assumption); (case N => assumption); (case F => k_asm); (case N2 => k_asm); (case hn => walk_at "cl sub")))
  k_with "m:cl bool" => ((refine' cl_end ?h ?N ?F ?N2 ?hn (r_bool ?_); (case h => assumption); (case N => assumption); (case F => k_asm); (case N2 => k_asm); (case hn => walk_at "cl sub")))
  k_with "m:call builtin:list.append" => ((k_here; (with_reducible show wpAny _ _ (call (Value.builtin _) [Value.ref _, _]) _ _ _); k_dflt (refine' append_K ?k1 ?k2 ?k3 ?_ ?z; (case k1 => k_asm); (case k2 => k_asm); (case k3 => k_upd); (case z => exact Nat.le_of_ble_eq_true rfl); k_whole); intro h' F' N'; (try k_sweep)))
  k_with "m:call ref" => ((k_here; k_dflt (k_extra "call ref")))
  k_with "m:cl off1" => (first | exact List.forall_mem_nil _ | exact OwnOff.ne (by assumption) (by simp) | (refine List.forall_mem_cons.mpr ⟨?_, ?_⟩ <;> walk_at "cl off1") | k_ne)
  k_with "m:cl off" => ((unfold Off; walk_at "cl off1"))
  k_with "m:cl mem" => (first | exact List.forall_mem_nil _ | (refine List.forall_mem_cons.mpr ⟨by k_mem, ?_⟩; walk_at "cl mem") | (intro p9 h9; kst_mem))
  k_with "m:cl all" => (((try simp only [List.cons_append, List.nil_append, List.append_nil]); walk_at "cl mem"))
  k_with "m:execs cons" => ((k_here; (with_reducible refine tok_add ?_); intro tk; (try dsimp only); (try k_fold)))
  k_with "m:storeName" => ((k_here; first | ((with_reducible refine tok_sp ?_); intro t9) | ((with_reducible refine tok_st ?_); intro t9)))
  k_with "m:in all" => (((refine List.forall_mem_cons.mpr ⟨by k_mem, ?_⟩); (refine List.forall_mem_cons.mpr ⟨by k_mem, ?_⟩); (refine List.forall_mem_cons.mpr ⟨by k_mem, ?_⟩); (refine List.forall_mem_cons.mpr ⟨by k_mem, ?_⟩); (refine List.forall_mem_cons.mpr ⟨by k_mem, ?_⟩); (refine List.forall_mem_cons.mpr ⟨by k_mem, ?_⟩); (refine List.forall_mem_cons.mpr ⟨by k_mem, ?_⟩); exact List.forall_mem_nil _))
  trivial
set_option maxHeartbeats 1000000 in
theorem toInt_cl (l : Addr) (vs : List Value) (ds : List Int) (j : Nat) (tn : Tok) (hi : IntsAre vs ds) (hl : 0 < ds.length) (hl2 : ds.length ≤ 2) (hb : DB ds) (hne : @Ne Nat l 68) :
    Cl w p loose mean mg mb 73 20 200 [.ref l, .int 9 tn] [(l, listOf vs.toArray j), (68, tabObj #[])] (RJ (dInt 9 2 0 ds.length ds)) := by
  unfold Cl
  k_fill
  intro rest dp un gd cn cs a₀ ccd cl outer A₀ base h₀ L m s Q E B CD F X N O T hk hd hu hret
  obtain ⟨C1, C2⟩ := CD
  walk_at "cl enterC"
  k_with_none
  k_with "m:cl enter" => (((refine wpAny_call ?_); k_dflt (refine' code_defV ?k1 ?k2 ?k3 ?k4 ?kO ?k5 ?kA ?kF ?kK ?k6 ?k7 ?k8 ?k9 ?kB ?_ ?c2 ?c3 ?c4 ?c5; (case kA => exact rfl); (case kF => exact rfl); (case kK => assumption); (case k1 => k_asm); (case k2 => k_asm); (case k3 => k_asm); (case k4 => k_asm); (case kO => k_asm); (case k5 => k_asm); (case k6 => k_is); (case k7 => k_is); (case k8 => ktr_room); (case k9 => first | exact BindsTo.of_eq rfl | exact binds_K (by k_in) rfl (by k_is) rfl rfl rfl | (refine' kp_binds ?kx ?ke; (case kx => k_in); (case ke => exact fun _ => rfl))); (case c5 => decide); (case kB => exact locs rfl); (case c2 => exact rfl); (case c3 => exact rfl); (case c4 => exact rfl); k_whole; intro g' L' h' FG' F' N' B' X' T' l1 lim'; (try k_lt l1); (try dsimp only); (try k_fold))))
  k_with "m:cl enterC" => (((refine wpAny_call ?_); k_dflt (refine' code_defCV ?k1 ?k2 ?k3 ?k4 ?kO ?k5 ?kA ?kF ?kK ?k6 ?k7 ?k8 ?k9 ?kB ?kD ?_ ?c2 ?c3 ?c4; (case kA => exact rfl); (case kF => exact rfl); (case kK => assumption); (case k1 => k_asm); (case k2 => k_asm); (case k3 => k_asm); (case k4 => k_asm); (case kO => k_asm); (case k5 => k_asm); (case k6 => k_is); (case k7 => k_is); (case k8 => ktr_room); (case k9 => first | exact BindsTo.of_eq rfl | exact binds_K (by k_in) rfl (by k_is) rfl rfl rfl | (refine' kp_binds ?kx ?ke; (case kx => k_in); (case ke => exact fun _ => rfl))); (case kB => exact rfl); (case kD => decide +kernel); (case c2 => exact rfl); (case c3 => exact rfl); (case c4 => exact rfl); k_whole; intro g' L' h' tk' cells' FG' F' N' Y' B' X' T' l1 lim'; (try k_lt l1); k_cells Y'; (try simp only [List.cons_append, List.nil_append] at N'); (try dsimp only); (try k_fold))))
  k_with "m:cl sub" => (first | exact fun _ h => h | exact List.forall_mem_nil _ | kcj_all)
  k_with "m:cl end" => ((refine' cl_end ?h ?N ?F ?N2 ?_ ?_; (case h => assumption); (case N => assumption); (case F => k_asm); (case N2 => k_asm); rotate_left))
  k_with "m:cl int" => ((refine' cl_end ?h ?N ?F ?N2 ?hn (r_int ?_); (case h => assumption); (case N => assumption); (case F => k_asm); (case N2 => k_asm); (case hn => walk_at "cl sub")))
  k_with "m:cl str" => ((refine' cl_end ?h ?N ?F ?N2 ?hn (r_str ?_); (case h => assumption); (case N => assumption); (case F => k_asm); (case N2 => k_asm); (case hn => walk_at "cl sub")))
  k_with "m:cl bool" => ((refine' cl_end ?h ?N ?F ?N2 ?hn (r_bool ?_); (case h => assumption); (case N => assumption); (case F => k_asm); (case N2 => k_asm); (case hn => walk_at "cl sub")))
  k_with "m:call builtin:list.append" => ((k_here; (with_reducible show wpAny _ _ (call (Value.builtin _) [Value.ref _, _]) _ _ _); k_dflt (refine' append_K ?k1 ?k2 ?k3 ?_ ?z; (case k1 => k_asm); (case k2 => k_asm); (case k3 => k_upd); (case z => exact Nat.le_of_ble_eq_true rfl); k_whole); intro h' F' N'; (try k_sweep)))
  k_with "m:call ref" => ((k_here; k_dflt (k_extra "call ref")))
  k_with "m:cl off1" => (first | exact List.forall_mem_nil _ | exact OwnOff.ne (by assumption) (by simp) | (refine List.forall_mem_cons.mpr ⟨?_, ?_⟩ <;> walk_at "cl off1") | k_ne)
  k_with "m:cl off" => ((unfold Off; walk_at "cl off1"))
  k_with "m:cl mem" => (first | exact List.forall_mem_nil _ | (refine List.forall_mem_cons.mpr ⟨by k_mem, ?_⟩; walk_at "cl mem") | (intro p9 h9; kst_mem))
  k_with "m:cl all" => (((try simp only [List.cons_append, List.nil_append, List.append_nil]); walk_at "cl mem"))
  k_with "m:execs cons" => ((k_here; (with_reducible refine tok_add ?_); intro tk; (try dsimp only); (try k_fold)))
  k_with "m:storeName" => ((k_here; first | ((with_reducible refine tok_sp ?_); intro t9) | ((with_reducible refine tok_st ?_); intro t9)))
  k_with "m:in all" => (((refine List.forall_mem_cons.mpr ⟨by k_mem, ?_⟩); (refine List.forall_mem_cons.mpr ⟨by k_mem, ?_⟩); (refine List.forall_mem_cons.mpr ⟨by k_mem, ?_⟩); (refine List.forall_mem_cons.mpr ⟨by k_mem, ?_⟩); (refine List.forall_mem_cons.mpr ⟨by k_mem, ?_⟩); (refine List.forall_mem_cons.mpr ⟨by k_mem, ?_⟩); (refine List.forall_mem_cons.mpr ⟨by k_mem, ?_⟩); exact List.forall_mem_nil _))
  k_steps
  · refine' cl_use (rest := [(68, _)]) (d_all (n := 9) ?hp (by decide) hi hl2 hb ?hoc ?hq ?hA ?hI ?hN ?hne 2 _ _ _ _ ?h2 ?h3 ?h4 ?h5) ?k1 ?kC ?k2 ?k3 ?k4 ?ha ?kO ?k5 ?kK ?kd ?ku ?_
    case k1 => k_asm
    case kC => exact And.intro (by assumption) (by assumption)
    case k2 => k_asm
    case k3 => k_asm
    case k4 => k_asm
    case ha => walk_at "in all"
    case hp => rfl
    case hoc => assumption
    case hq => assumption
    case hA => assumption
    case hI => assumption
    case hN => assumption
    case hne => omega
    case h2 => omega
    case h3 => omega
    case h4 => omega
    case h5 => omega
    case kO => unfold Off; walk_at "cl off1"
    case k5 => k_asm
    case kK => first | exact rfl | assumption
    case kd => ktr_room
    case ku => ktr_units
    intro lim9 v9 n9 h9 tk9 lt9 R9 F9 N9
    obtain ⟨e9', t9, e9⟩ := R9
    subst e9
    subst e9'
    simp only [List.cons_append, List.nil_append] at N9
    try dsimp only
    try k_fold
    k_steps
    refine' cl_end hret N (by k_asm) (by k_asm) ?hn1 ⟨_, _, rfl, rfl⟩
    case hn1 => exact List.forall_mem_cons.mpr ⟨by k_mem, List.forall_mem_nil _⟩
theorem toInt0_cl (l : Addr) (j : Nat) (tn : Tok) (hne : @Ne Nat l 68) :
    Cl w p loose mean mg mb 73 20 200 [.ref l, .int 9 tn] [(l, listOf #[] j), (68, tabObj #[])] (RJ 0) := by
  unfold Cl
  k_fill
  intro rest dp un gd cn cs a₀ ccd cl outer A₀ base h₀ L m s Q E B CD F X N O T hk hd hu hret
  obtain ⟨C1, C2⟩ := CD
  walk_at "cl enterC"
  k_with_none
  k_with "m:cl enter" => (((refine wpAny_call ?_); k_dflt (refine' code_defV ?k1 ?k2 ?k3 ?k4 ?kO ?k5 ?kA ?kF ?kK ?k6 ?k7 ?k8 ?k9 ?kB ?_ ?c2 ?c3 ?c4 ?c5; (case kA => exact rfl); (case kF => exact rfl); (case kK => assumption); (case k1 => k_asm); (case k2 => k_asm); (case k3 => k_asm); (case k4 => k_asm); (case kO => k_asm); (case k5 => k_asm); (case k6 => k_is); (case k7 => k_is); (case k8 => ktr_room); (case k9 => first | exact BindsTo.of_eq rfl | exact binds_K (by k_in) rfl (by k_is) rfl rfl rfl | (refine' kp_binds ?kx ?ke; (case kx => k_in); (case ke => exact fun _ => rfl))); (case c5 => decide); (case kB => exact locs rfl); (case c2 => exact rfl); (case c3 => exact rfl); (case c4 => exact rfl); k_whole; intro g' L' h' FG' F' N' B' X' T' l1 lim'; (try k_lt l1); (try dsimp only); (try k_fold))))
  k_with "m:cl enterC" => (((refine wpAny_call ?_); k_dflt (refine' code_defCV ?k1 ?k2 ?k3 ?k4 ?kO ?k5 ?kA ?kF ?kK ?k6 ?k7 ?k8 ?k9 ?kB ?kD ?_ ?c2 ?c3 ?c4; (case kA => exact rfl); (case kF => exact rfl); (case kK => assumption); (case k1 => k_asm); (case k2 => k_asm); (case k3 => k_asm); (case k4 => k_asm); (case kO => k_asm); (case k5 => k_asm); (case k6 => k_is); (case k7 => k_is); (case k8 => ktr_room); (case k9 => first | exact BindsTo.of_eq rfl | exact binds_K (by k_in) rfl (by k_is) rfl rfl rfl | (refine' kp_binds ?kx ?ke; (case kx => k_in); (case ke => exact fun _ => rfl))); (case kB => exact rfl); (case kD => decide +kernel); (case c2 => exact rfl); (case c3 => exact rfl); (case c4 => exact rfl); k_whole; intro g' L' h' tk' cells' FG' F' N' Y' B' X' T' l1 lim'; (try k_lt l1); k_cells Y'; (try simp only [List.cons_append, List.nil_append] at N'); (try dsimp only); (try k_fold))))
  k_with "m:cl sub" => (first | exact fun _ h => h | exact List.forall_mem_nil _ | kcj_all)
  k_with "m:cl end" => ((refine' cl_end ?h ?N ?F ?N2 ?_ ?_; (case h => assumption); (case N => assumption); (case F => k_asm); (case N2 => k_asm); rotate_left))
  k_with "m:cl int" => ((refine' cl_end ?h ?N ?F ?N2 ?hn (r_int ?_); (case h => assumption); (case N => assumption); (case F => k_asm); (case N2 => k_asm); (case hn => walk_at "cl sub")))
  k_with "m:cl str" => ((refine' cl_end ?h ?N ?F ?N2 ?hn (r_str ?_); (case h => assumption); (case N => assumption); (case F => k_asm); (case N2 => k_asm); (case hn => walk_at "cl sub")))
  k_with "m:cl bool" => ((refine' cl_end ?h ?N ?F ?N2 ?hn (r_bool ?_); (case h => assumption); (case N => assumption); (case F => k_asm); (case N2 => k_asm); (case hn => walk_at "cl sub")))
  k_with "m:call builtin:list.append" => ((k_here; (with_reducible show wpAny _ _ (call (Value.builtin _) [Value.ref _, _]) _ _ _); k_dflt (refine' append_K ?k1 ?k2 ?k3 ?_ ?z; (case k1 => k_asm); (case k2 => k_asm); (case k3 => k_upd); (case z => exact Nat.le_of_ble_eq_true rfl); k_whole); intro h' F' N'; (try k_sweep)))
  k_with "m:call ref" => ((k_here; k_dflt (k_extra "call ref")))
  k_with "m:cl off1" => (first | exact List.forall_mem_nil _ | exact OwnOff.ne (by assumption) (by simp) | (refine List.forall_mem_cons.mpr ⟨?_, ?_⟩ <;> walk_at "cl off1") | k_ne)
  k_with "m:cl off" => ((unfold Off; walk_at "cl off1"))
  k_with "m:cl mem" => (first | exact List.forall_mem_nil _ | (refine List.forall_mem_cons.mpr ⟨by k_mem, ?_⟩; walk_at "cl mem") | (intro p9 h9; kst_mem))
  k_with "m:cl all" => (((try simp only [List.cons_append, List.nil_append, List.append_nil]); walk_at "cl mem"))
  k_with "m:execs cons" => ((k_here; (with_reducible refine tok_add ?_); intro tk; (try dsimp only); (try k_fold)))
  k_with "m:storeName" => ((k_here; first | ((with_reducible refine tok_sp ?_); intro t9) | ((with_reducible refine tok_st ?_); intro t9)))
  k_with "m:in all" => (((refine List.forall_mem_cons.mpr ⟨by k_mem, ?_⟩); (refine List.forall_mem_cons.mpr ⟨by k_mem, ?_⟩); (refine List.forall_mem_cons.mpr ⟨by k_mem, ?_⟩); (refine List.forall_mem_cons.mpr ⟨by k_mem, ?_⟩); (refine List.forall_mem_cons.mpr ⟨by k_mem, ?_⟩); (refine List.forall_mem_cons.mpr ⟨by k_mem, ?_⟩); (refine List.forall_mem_cons.mpr ⟨by k_mem, ?_⟩); exact List.forall_mem_nil _))
  k_steps
  refine' cl_end hret N (by k_asm) (by k_asm) ?hn1 ⟨_, _, rfl, rfl⟩
  case hn1 => exact List.forall_mem_cons.mpr ⟨by k_mem, List.forall_mem_nil _⟩

end
section
theorem low_eq {x : Int} (k : Nat) (h0 : 0 ≤ x) : Builtin.bitXor x (x.fdiv (2 ^ k) * 2 ^ k) = x.fmod (2 ^ k) := by
  obtain ⟨a, rfl⟩ := Int.eq_ofNat_of_zero_le h0
  have p : (0 : Int) ≤ 2 ^ k := Int.le_of_lt (Int.pow_pos (by decide))
  have e : ((a : Int)).fdiv (2 ^ k) * 2 ^ k = ((a / 2 ^ k * 2 ^ k : Nat) : Int) := by
    rw [Int.fdiv_eq_ediv_of_nonneg _ p]; simp
  have e2 : Builtin.bitAnd (a : Int) ((a / 2 ^ k * 2 ^ k : Nat) : Int) = ((a / 2 ^ k * 2 ^ k : Nat) : Int) := by
    rw [bitAnd_pp (by omega) (by omega), Int.toNat_natCast, Int.toNat_natCast, nat_and_high]
  rw [e, bitXor_and, e2, Int.fmod_eq_emod_of_nonneg _ p]
  have q := Nat.div_add_mod a (2 ^ k)
  rw [Nat.mul_comm] at q
  have e3 : ((a : Int) % (2 ^ k : Int)) = ((a % 2 ^ k : Nat) : Int) := by push_cast; rfl
  rw [e3]
  omega
theorem digs9 {a : Int} (h0 : 0 ≤ a) (h1 : a < 65536) : ∃ k : Nat, ((Builtin.Int.intBits a : Int) + 9 - 1).fdiv 9 = k ∧ k ≤ 16 ∧ (a ≠ 0 → 0 < k) ∧ (digF a 9 k = [] ∧ a = 0 ∨ digF a 9 k = [a] ∧ a < 512 ∨ digF a 9 k = [a.fmod 512, a.fdiv 512]) := by
  by_cases z : a = 0
  · subst z
    exact ⟨0, by decide, by decide, fun h => absurd rfl h, .inl ⟨rfl, rfl⟩⟩
  have b16 := bits_lt (k := 16) h0 h1
  have b0 : ¬ Builtin.Int.intBits a ≤ 0 := fun h => by
    have := intBits_le_iff.mp h
    omega
  by_cases s : a < 512
  · have b9 := bits_lt (k := 9) h0 s
    refine ⟨1, ?_, by decide, fun _ => by decide, .inr (.inl ⟨?_, s⟩)⟩
    · rw [Int.fdiv_eq_ediv_of_nonneg _ (by decide)]; omega
    · rw [digF_t z, innerF, if_pos (by decide)]; rfl
  · have b9 : ¬ Builtin.Int.intBits a ≤ 9 := fun h => by
      have := intBits_le_iff.mp h
      omega
    refine ⟨2, ?_, by decide, fun _ => by decide, .inr (.inr ?_)⟩
    · rw [Int.fdiv_eq_ediv_of_nonneg _ (by decide)]; omega
    · rw [digF_t z, innerF, if_neg (by decide)]
      have e1 : ((0 : Int) + ((2 : Nat) : Int)).fdiv (2 ^ Int.toNat 1) = 1 := by decide
      rw [e1, innerF, if_pos (by decide), innerF, if_pos (by decide)]
      have e2 : (((1 : Int) - 0) * 9).toNat = 9 := by decide
      rw [e2, low_eq 9 h0]
      rfl

end
section
theorem rows_a28 : True := by
  k_with_none
  k_with "m:cl enter" => (((refine wpAny_call ?_); k_dflt (refine' code_defV ?k1 ?k2 ?k3 ?k4 ?kO ?k5 ?kA ?kF ?kK ?k6 ?k7 ?k8 ?k9 ?kB ?_ ?c2 ?c3 ?c4 ?c5; (case kA => exact rfl); (case kF => exact rfl); (case kK => assumption); (case k1 => k_asm); (case k2 => k_asm); (case k3 => k_asm); (case k4 => k_asm); (case kO => k_asm); (case k5 => k_asm); (case k6 => k_is); (case k7 => k_is); (case k8 => ktr_room); (case k9 => first | exact BindsTo.of_eq rfl | exact binds_K (by k_in) rfl (by k_is) rfl rfl rfl | (refine' kp_binds ?kx ?ke; (case kx => k_in); (case ke => exact fun _ => rfl))); (case c5 => decide); (case kB => exact locs rfl); (case c2 => exact rfl); (case c3 => exact rfl); (case c4 => exact rfl); k_whole; intro g' L' h' FG' F' N' B' X' T' l1 lim'; (try k_lt l1); (try dsimp only); (try k_fold))))
  k_with "m:cl enterC" => (((refine wpAny_call ?_); k_dflt (refine' code_defCV ?k1 ?k2 ?k3 ?k4 ?kO ?k5 ?kA ?kF ?kK ?k6 ?k7 ?k8 ?k9 ?kB ?kD ?_ ?c2 ?c3 ?c4; (case kA => exact rfl); (case kF => exact rfl); (case kK => assumption); (case k1 => k_asm); (case k2 => k_asm); (case k3 => k_asm); (case k4 => k_asm); (case kO => k_asm); (case k5 => k_asm); (case k6 => k_is); (case k7 => k_is); (case k8 => ktr_room); (case k9 => first | exact BindsTo.of_eq rfl | exact binds_K (by k_in) rfl (by k_is) rfl rfl rfl | (refine' kp_binds ?kx ?ke; (case kx => k_in); (case ke => exact fun _ => rfl))); (case kB => exact rfl); (case kD => decide +kernel); (case c2 => exact rfl); (case c3 => exact rfl); (case c4 => exact rfl); k_whole; intro g' L' h' tk' cells' FG' F' N' Y' B' X' T' l1 lim'; (try k_lt l1); k_cells Y'; (try simp only [List.cons_append, List.nil_append] at N'); (try dsimp only); (try k_fold))))
  k_with "m:cl sub" => (first | exact fun _ h => h | exact List.forall_mem_nil _ | kcj_all)
  k_with "m:cl end" => ((refine' cl_end ?h ?N ?F ?N2 ?_ ?_; (case h => assumption); (case N => assumption); (case F => k_asm); (case N2 => k_asm); rotate_left))
  k_with "m:cl int" => ((refine' cl_end ?h ?N ?F ?N2 ?hn (r_int ?_); (case h => assumption); (case N => assumption); (case F => k_asm); (case N2 => k_asm); (case hn => walk_at "cl sub")))
  k_with "m:cl str" => ((refine' cl_end ?h ?N ?F ?N2 ?hn (r_str ?_); (case h => assumption); (case N => assumption); (case F => k_asm); (case N2 => k_asm); (case hn => walk_at "cl sub")))
  k_with "m:cl bool" => ((refine' cl_end ?h ?N ?F ?N2 ?hn (r_bool ?_); (case h => assumption); (case N => assumption); (case F => k_asm); (case N2 => k_asm); (case hn => walk_at "cl sub")))
  k_with "m:call builtin:list.append" => ((k_here; (with_reducible show wpAny _ _ (call (Value.builtin _) [Value.ref _, _]) _ _ _); k_dflt (refine' append_K ?k1 ?k2 ?k3 ?_ ?z; (case k1 => k_asm); (case k2 => k_asm); (case k3 => k_upd); (case z => exact Nat.le_of_ble_eq_true rfl); k_whole); intro h' F' N'; (try k_sweep)))
  k_with "m:call ref" => ((k_here; k_dflt (k_extra "call ref")))
  k_with "m:cl off1" => (first | exact List.forall_mem_nil _ | exact OwnOff.ne (by assumption) (by simp) | (refine List.forall_mem_cons.mpr ⟨?_, ?_⟩ <;> walk_at "cl off1") | k_ne)
  k_with "m:cl off" => ((unfold Off; walk_at "cl off1"))
  k_with "m:cl mem" => (first | exact List.forall_mem_nil _ | (refine List.forall_mem_cons.mpr ⟨by k_mem, ?_⟩; walk_at "cl mem") | (intro p9 h9; kst_mem))
  k_with "m:cl all" => (((try simp only [List.cons_append, List.nil_append, List.append_nil]); walk_at "cl mem"))
  k_with "m:execs cons" => ((k_here; (with_reducible refine tok_add ?_); intro tk; (try dsimp only); (try k_fold)))
  k_with "m:storeName" => ((k_here; first | ((with_reducible refine tok_sp ?_); intro t9) | ((with_reducible refine tok_st ?_); intro t9)))
  trivial
theorem store9 {M : Model} {A : Around} {Q : Unit → Shared → Prop} {E : Value → Shared → Prop} {s : Shared} {env : Env} {x : Str} {t : Tok} (h : wpAny M A (storeName env x (.int 9 t)) Q E s) : wpAny M A (storeName env x (.int ((Builtin.Int.intBits 256 : Nat) : Int) t)) Q E s := by
  have e : ((Builtin.Int.intBits 256 : Nat) : Int) = 9 := by decide +kernel
  rw [e]; exact h
theorem cl_use0L {f : Addr} {dd du : Nat} {vs : List Value} {Ret : Addr → Value → List (Addr × Obj) → Prop}
    {all : List (Addr × Obj)} {dp un : Nat} {gd : Option (List Code)} {cn : Str} {cs : Scope} {a : Addr} {ccd : Value} {cl : List (Str × Addr)} {outer : List Env} {A₀ : Around} {base h₀ : Heap} {L : Addr} {m : Str → Option Value} {s : Shared} {Q E : Value → Shared → Prop}
    (C : Cl w p loose mean mg mb f dd du vs [] Ret)
    (B : Below A₀ base outer h₀) (CD : Cds base) (F : Fr h₀ L s.heap m) (X : (hd.heap_39 w.params).In h₀) (N : News h₀ L s.heap all) (T : Top p loose mean mg mb h₀) (hk : cs.kind = .function)
    (hd : dp + dd < recursionLimit) (hu : un + du < cLine)
    (ret : ∀ lim v vis' h' tk', (∀ q ∈ all, q.1 < lim) → @LT.lt Nat _ L lim → Ret lim v vis' → Fr h₀ L h' m → News h₀ L h' (vis' ++ all) → Q v { s with heap := h', toks := tk' }) :
    wpAny (model PySem.Challenge.rw_sn0086_01.row.prog w) (ktrTop dp un gd cn cs L a ccd cl outer) (call (.ref f) vs) Q E s :=
  C all dp un gd cn cs a ccd cl outer A₀ base h₀ L m s Q E B CD F X N Off.nil T hk hd hu (ret _ · · · · (fun q hq => Heap.lt_size (N q hq).1) F.ns.lt)
theorem rows_a29 : True := by
  k_with_none
  k_with "m:cl enter" => (((refine wpAny_call ?_); k_dflt (refine' code_defV ?k1 ?k2 ?k3 ?k4 ?kO ?k5 ?kA ?kF ?kK ?k6 ?k7 ?k8 ?k9 ?kB ?_ ?c2 ?c3 ?c4 ?c5; (case kA => exact rfl); (case kF => exact rfl); (case kK => assumption); (case k1 => k_asm); (case k2 => k_asm); (case k3 => k_asm); (case k4 => k_asm); (case kO => k_asm); (case k5 => k_asm); (case k6 => k_is); (case k7 => k_is); (case k8 => ktr_room); (case k9 => first | exact BindsTo.of_eq rfl | exact binds_K (by k_in) rfl (by k_is) rfl rfl rfl | (refine' kp_binds ?kx ?ke; (case kx => k_in); (case ke => exact fun _ => rfl))); (case c5 => decide); (case kB => exact locs rfl); (case c2 => exact rfl); (case c3 => exact rfl); (case c4 => exact rfl); k_whole; intro g' L' h' FG' F' N' B' X' T' l1 lim'; (try k_lt l1); (try dsimp only); (try k_fold))))
  k_with "m:cl enterC" => (((refine wpAny_call ?_); k_dflt (refine' code_defCV ?k1 ?k2 ?k3 ?k4 ?kO ?k5 ?kA ?kF ?kK ?k6 ?k7 ?k8 ?k9 ?kB ?kD ?_ ?c2 ?c3 ?c4; (case kA => exact rfl); (case kF => exact rfl); (case kK => assumption); (case k1 => k_asm); (case k2 => k_asm); (case k3 => k_asm); (case k4 => k_asm); (case kO => k_asm); (case k5 => k_asm); (case k6 => k_is); (case k7 => k_is); (case k8 => ktr_room); (case k9 => first | exact BindsTo.of_eq rfl | exact binds_K (by k_in) rfl (by k_is) rfl rfl rfl | (refine' kp_binds ?kx ?ke; (case kx => k_in); (case ke => exact fun _ => rfl))); (case kB => exact rfl); (case kD => decide +kernel); (case c2 => exact rfl); (case c3 => exact rfl); (case c4 => exact rfl); k_whole; intro g' L' h' tk' cells' FG' F' N' Y' B' X' T' l1 lim'; (try k_lt l1); k_cells Y'; (try simp only [List.cons_append, List.nil_append] at N'); (try dsimp only); (try k_fold))))
  k_with "m:cl sub" => (first | exact fun _ h => h | exact List.forall_mem_nil _ | kcj_all)
  k_with "m:cl end" => ((refine' cl_end ?h ?N ?F ?N2 ?_ ?_; (case h => assumption); (case N => assumption); (case F => k_asm); (case N2 => k_asm); rotate_left))
  k_with "m:cl int" => ((refine' cl_end ?h ?N ?F ?N2 ?hn (r_int ?_); (case h => assumption); (case N => assumption); (case F => k_asm); (case N2 => k_asm); (case hn => walk_at "cl sub")))
  k_with "m:cl str" => ((refine' cl_end ?h ?N ?F ?N2 ?hn (r_str ?_); (case h => assumption); (case N => assumption); (case F => k_asm); (case N2 => k_asm); (case hn => walk_at "cl sub")))
  k_with "m:cl bool" => ((refine' cl_end ?h ?N ?F ?N2 ?hn (r_bool ?_); (case h => assumption); (case N => assumption); (case F => k_asm); (case N2 => k_asm); (case hn => walk_at "cl sub")))
  k_with "m:call builtin:list.append" => ((k_here; (with_reducible show wpAny _ _ (call (Value.builtin _) [Value.ref _, _]) _ _ _); k_dflt (refine' append_K ?k1 ?k2 ?k3 ?_ ?z; (case k1 => k_asm); (case k2 => k_asm); (case k3 => k_upd); (case z => exact Nat.le_of_ble_eq_true rfl); k_whole); intro h' F' N'; (try k_sweep)))
  k_with "m:call ref" => ((k_here; k_dflt (k_extra "call ref")))
  k_with "m:cl off1" => (first | exact List.forall_mem_nil _ | exact OwnOff.ne (by assumption) (by simp) | (refine List.forall_mem_cons.mpr ⟨?_, ?_⟩ <;> walk_at "cl off1") | k_ne)
  k_with "m:cl off" => ((unfold Off; walk_at "cl off1"))
  k_with "m:cl mem" => (first | exact List.forall_mem_nil _ | (refine List.forall_mem_cons.mpr ⟨by k_mem, ?_⟩; walk_at "cl mem") | (intro p9 h9; kst_mem))
  k_with "m:cl all" => (((try simp only [List.cons_append, List.nil_append, List.append_nil]); walk_at "cl mem"))
  k_with "m:execs cons" => ((k_here; (with_reducible refine tok_add ?_); intro tk; (try dsimp only); (try k_fold)))
  k_with "m:storeName" => ((k_here; first | ((with_reducible refine tok_sp ?_); intro t9) | ((with_reducible refine tok_st ?_); intro t9)))
  k_with "m:storeName" => ((k_here; (with_reducible refine store9 ?_)))
  k_with "m:call ref" => ((k_here; k_dflt (refine' cl_use0L (div21_cl _ _ _ _ ?hv) ?k1 ?kC ?k2 ?k3 ?k4 ?k5 ?kK ?kd ?ku ?_; (case k1 => k_asm); (case kC => assumption); (case k2 => k_asm); (case k3 => k_asm); (case k4 => k_asm); (case hv => omega); (case k5 => k_asm); (case kK => first | exact rfl | assumption); (case kd => ktr_room); (case ku => ktr_units)); intro lim9 v9 n9 h9 tk9 lt9 lL9 R9 F9 N9; (obtain ⟨D8, t8, u8, e8, l8, e8'⟩ := R9); subst e8; subst e8'; (try simp only [List.cons_append, List.nil_append, List.append_nil] at N9); (have l1 := allLt_of lt9); (simp only [AllLt, and_true] at l1); (try dsimp only); (try k_fold)))
  trivial
theorem DB1 {q : Int} (h : 0 ≤ q ∧ q < 65536) : DB [q] := fun i => by
  cases i with
  | zero => exact h
  | succ i => exact ⟨Int.le_refl _, (by decide : (0 : Int) < 65536)⟩
theorem DB2 {q r : Int} (h : 0 ≤ q ∧ q < 65536) (h2 : 0 ≤ r ∧ r < 65536) : DB [q, r] := fun i => by
  match i with
  | 0 => exact h
  | 1 => exact h2
  | i + 2 => exact ⟨Int.le_refl _, (by decide : (0 : Int) < 65536)⟩
theorem fd_in {a : Int} (h : 0 ≤ a) : 0 ≤ a.fdiv 256 ∧ a.fdiv 256 ≤ a := by rw [Int.fdiv_eq_ediv_of_nonneg _ (by decide)]; omega
theorem fm_in {a : Int} : 0 ≤ a.fmod 256 ∧ a.fmod 256 < 256 := by rw [Int.fmod_eq_emod_of_nonneg _ (by decide)]; omega
theorem hi_in {a : Int} (h : 0 ≤ a ∧ a < 65536) : 0 ≤ a.fdiv 512 ∧ a.fdiv 512 < 128 := by rw [Int.fdiv_eq_ediv_of_nonneg _ (by decide)]; omega
theorem lo_in {a : Int} : 0 ≤ a.fmod 512 ∧ a.fmod 512 < 512 := by rw [Int.fmod_eq_emod_of_nonneg _ (by decide)]; omega
theorem z9 (a : Int) : 0 * 2 ^ Int.toNat 9 + a = a := by omega
theorem dInt1 (q : Int) : dInt 9 2 0 (([q] : List Int).length) [q] = q := rfl
theorem dInt2 (q r : Int) : dInt 9 2 0 (([q, r] : List Int).length) [q, r] = r * 2 ^ Int.toNat 9 + q := by
  have e0 : ((([q, r] : List Int).length : Nat) : Int) = 2 := rfl
  rw [e0, dInt, if_neg (by decide)]
  have e1 : ((0 : Int) + 2).fdiv (2 ^ Int.toNat 1) = 1 := by decide
  rw [e1, dInt, if_pos (by decide), dInt, if_pos (by decide)]
  rfl
theorem join9 {a : Int} (h : 0 ≤ a ∧ a < 65536) : (0 * 2 ^ Int.toNat 9 + a.fdiv 512).fmod 256 * 2 ^ Int.toNat 9 + a.fmod 512 = a := by
  have e : (2 : Int) ^ Int.toNat 9 = 512 := by decide
  rw [z9, e, Int.fdiv_eq_ediv_of_nonneg _ (by decide), Int.fmod_eq_emod_of_nonneg _ (by decide), Int.fmod_eq_emod_of_nonneg _ (by decide)]
  omega
theorem top0 {a : Int} (h : 0 ≤ a ∧ a < 65536) : (0 * 2 ^ Int.toNat 9 + a.fdiv 512).fdiv 256 = 0 := by
  rw [z9, Int.fdiv_eq_ediv_of_nonneg _ (by decide), Int.fdiv_eq_ediv_of_nonneg _ (by decide)]
  omega
noncomputable def RPair (q r : Int) : Addr → Value → List (Addr × Obj) → Prop := fun lim v vis' => ∃ D t u c oc x y ps, v = .ref D ∧ x = q ∧ y = r ∧ @LE.le Nat _ lim D ∧ @LT.lt Nat _ 68 c ∧ @LT.lt Nat _ c D ∧ CodeOk oc ∧ vis' = [(D, tupOf [.int x t, .int y u]), (61, tab1 c), (c, oc), (68, tabObj ps)]
theorem rows_a30 : True := by
  k_with_none
  k_with "m:cl enter" => (((refine wpAny_call ?_); k_dflt (refine' code_defV ?k1 ?k2 ?k3 ?k4 ?kO ?k5 ?kA ?kF ?kK ?k6 ?k7 ?k8 ?k9 ?kB ?_ ?c2 ?c3 ?c4 ?c5; (case kA => exact rfl); (case kF => exact rfl); (case kK => assumption); (case k1 => k_asm); (case k2 => k_asm); (case k3 => k_asm); (case k4 => k_asm); (case kO => k_asm); (case k5 => k_asm); (case k6 => k_is); (case k7 => k_is); (case k8 => ktr_room); (case k9 => first | exact BindsTo.of_eq rfl | exact binds_K (by k_in) rfl (by k_is) rfl rfl rfl | (refine' kp_binds ?kx ?ke; (case kx => k_in); (case ke => exact fun _ => rfl))); (case c5 => decide); (case kB => exact locs rfl); (case c2 => exact rfl); (case c3 => exact rfl); (case c4 => exact rfl); k_whole; intro g' L' h' FG' F' N' B' X' T' l1 lim'; (try k_lt l1); (try dsimp only); (try k_fold))))
  k_with "m:cl enterC" => (((refine wpAny_call ?_); k_dflt (refine' code_defCV ?k1 ?k2 ?k3 ?k4 ?kO ?k5 ?kA ?kF ?kK ?k6 ?k7 ?k8 ?k9 ?kB ?kD ?_ ?c2 ?c3 ?c4; (case kA => exact rfl); (case kF => exact rfl); (case kK => assumption); (case k1 => k_asm); (case k2 => k_asm); (case k3 => k_asm); (case k4 => k_asm); (case kO => k_asm); (case k5 => k_asm); (case k6 => k_is); (case k7 => k_is); (case k8 => ktr_room); (case k9 => first | exact BindsTo.of_eq rfl | exact binds_K (by k_in) rfl (by k_is) rfl rfl rfl | (refine' kp_binds ?kx ?ke; (case kx => k_in); (case ke => exact fun _ => rfl))); (case kB => exact rfl); (case kD => decide +kernel); (case c2 => exact rfl); (case c3 => exact rfl); (case c4 => exact rfl); k_whole; intro g' L' h' tk' cells' FG' F' N' Y' B' X' T' l1 lim'; (try k_lt l1); k_cells Y'; (try simp only [List.cons_append, List.nil_append] at N'); (try dsimp only); (try k_fold))))
  k_with "m:cl sub" => (first | exact fun _ h => h | exact List.forall_mem_nil _ | kcj_all)
  k_with "m:cl end" => ((refine' cl_end ?h ?N ?F ?N2 ?_ ?_; (case h => assumption); (case N => assumption); (case F => k_asm); (case N2 => k_asm); rotate_left))
  k_with "m:cl int" => ((refine' cl_end ?h ?N ?F ?N2 ?hn (r_int ?_); (case h => assumption); (case N => assumption); (case F => k_asm); (case N2 => k_asm); (case hn => walk_at "cl sub")))
  k_with "m:cl str" => ((refine' cl_end ?h ?N ?F ?N2 ?hn (r_str ?_); (case h => assumption); (case N => assumption); (case F => k_asm); (case N2 => k_asm); (case hn => walk_at "cl sub")))
  k_with "m:cl bool" => ((refine' cl_end ?h ?N ?F ?N2 ?hn (r_bool ?_); (case h => assumption); (case N => assumption); (case F => k_asm); (case N2 => k_asm); (case hn => walk_at "cl sub")))
  k_with "m:call builtin:list.append" => ((k_here; (with_reducible show wpAny _ _ (call (Value.builtin _) [Value.ref _, _]) _ _ _); k_dflt (refine' append_K ?k1 ?k2 ?k3 ?_ ?z; (case k1 => k_asm); (case k2 => k_asm); (case k3 => k_upd); (case z => exact Nat.le_of_ble_eq_true rfl); k_whole); intro h' F' N'; (try k_sweep)))
  k_with "m:call ref" => ((k_here; k_dflt (k_extra "call ref")))
  k_with "m:cl off1" => (first | exact List.forall_mem_nil _ | exact OwnOff.ne (by assumption) (by simp) | (refine List.forall_mem_cons.mpr ⟨?_, ?_⟩ <;> walk_at "cl off1") | k_ne)
  k_with "m:cl off" => ((unfold Off; walk_at "cl off1"))
  k_with "m:cl mem" => (first | exact List.forall_mem_nil _ | (refine List.forall_mem_cons.mpr ⟨by k_mem, ?_⟩; walk_at "cl mem") | (intro p9 h9; kst_mem))
  k_with "m:cl all" => (((try simp only [List.cons_append, List.nil_append, List.append_nil]); walk_at "cl mem"))
  k_with "m:execs cons" => ((k_here; (with_reducible refine tok_add ?_); intro tk; (try dsimp only); (try k_fold)))
  k_with "m:storeName" => ((k_here; first | ((with_reducible refine tok_sp ?_); intro t9) | ((with_reducible refine tok_st ?_); intro t9)))
  k_with "m:storeName" => ((k_here; (with_reducible refine store9 ?_)))
  k_with "m:call ref" => ((k_here; k_dflt (refine' cl_use0L (div21_cl _ _ _ _ ?hv) ?k1 ?kC ?k2 ?k3 ?k4 ?k5 ?kK ?kd ?ku ?_; (case k1 => k_asm); (case kC => assumption); (case k2 => k_asm); (case k3 => k_asm); (case k4 => k_asm); (case hv => omega); (case k5 => k_asm); (case kK => first | exact rfl | assumption); (case kd => ktr_room); (case ku => ktr_units)); intro lim9 v9 n9 h9 tk9 lt9 lL9 R9 F9 N9; (obtain ⟨D8, t8, u8, e8, l8, e8'⟩ := R9); subst e8; subst e8'; (try simp only [List.cons_append, List.nil_append, List.append_nil] at N9); (have l1 := allLt_of lt9); (simp only [AllLt, and_true] at l1); (try dsimp only); (try k_fold)))
  k_with "m:use73" => (((case k1 => k_asm); (case kC => assumption); (case k2 => k_asm); (case k3 => k_asm); (case k4 => k_asm); (case ha => walk_at "cl all"); (case hn => omega); (case kO => walk_at "cl off"); (case k5 => k_asm); (case kK => first | exact rfl | assumption); (case kd => ktr_room); (case ku => ktr_units); intro lim7 v7 n7 h7 tk7 lt7 lL7 R7 F7 N7; (obtain ⟨p7, t7, e7, e7'⟩ := R7); subst e7; subst e7'; (try simp only [List.cons_append, List.nil_append, List.append_nil] at N7); (have l1 := allLt_of lt7); (simp only [AllLt, and_true] at l1); (try dsimp only); (try k_fold); k_steps))
  trivial
set_option maxHeartbeats 1000000 in
theorem pos_cl (a : Int) (ta tb : Tok) (ha : 0 ≤ a ∧ a < 65536) :
    Cl w p loose mean mg mb 80 70 700 [.int a ta, .int 256 tb] [(61, tabObj #[]), (68, tabObj #[])] (RPair (a.fdiv 256) (a.fmod 256)) := by
  unfold Cl
  k_fill
  intro rest dp un gd cn cs a₀ ccd cl outer A₀ base h₀ L m s Q E B CD F X N O T hk hd hu hret
  obtain ⟨k, hk1, hk16, hk0, hds⟩ := digs9 ha.1 ha.2
  have hi := hi_in ha
  have lo := lo_in (a := a)
  have up := fm_in (a := 0 * 2 ^ Int.toNat 9 + a.fdiv 512)
  have jn := join9 ha
  walk_at "cl enter"
  k_with_none
  k_with "m:cl enter" => (((refine wpAny_call ?_); k_dflt (refine' code_defV ?k1 ?k2 ?k3 ?k4 ?kO ?k5 ?kA ?kF ?kK ?k6 ?k7 ?k8 ?k9 ?kB ?_ ?c2 ?c3 ?c4 ?c5; (case kA => exact rfl); (case kF => exact rfl); (case kK => assumption); (case k1 => k_asm); (case k2 => k_asm); (case k3 => k_asm); (case k4 => k_asm); (case kO => k_asm); (case k5 => k_asm); (case k6 => k_is); (case k7 => k_is); (case k8 => ktr_room); (case k9 => first | exact BindsTo.of_eq rfl | exact binds_K (by k_in) rfl (by k_is) rfl rfl rfl | (refine' kp_binds ?kx ?ke; (case kx => k_in); (case ke => exact fun _ => rfl))); (case c5 => decide); (case kB => exact locs rfl); (case c2 => exact rfl); (case c3 => exact rfl); (case c4 => exact rfl); k_whole; intro g' L' h' FG' F' N' B' X' T' l1 lim'; (try k_lt l1); (try dsimp only); (try k_fold))))
  k_with "m:cl enterC" => (((refine wpAny_call ?_); k_dflt (refine' code_defCV ?k1 ?k2 ?k3 ?k4 ?kO ?k5 ?kA ?kF ?kK ?k6 ?k7 ?k8 ?k9 ?kB ?kD ?_ ?c2 ?c3 ?c4; (case kA => exact rfl); (case kF => exact rfl); (case kK => assumption); (case k1 => k_asm); (case k2 => k_asm); (case k3 => k_asm); (case k4 => k_asm); (case kO => k_asm); (case k5 => k_asm); (case k6 => k_is); (case k7 => k_is); (case k8 => ktr_room); (case k9 => first | exact BindsTo.of_eq rfl | exact binds_K (by k_in) rfl (by k_is) rfl rfl rfl | (refine' kp_binds ?kx ?ke; (case kx => k_in); (case ke => exact fun _ => rfl))); (case kB => exact rfl); (case kD => decide +kernel); (case c2 => exact rfl); (case c3 => exact rfl); (case c4 => exact rfl); k_whole; intro g' L' h' tk' cells' FG' F' N' Y' B' X' T' l1 lim'; (try k_lt l1); k_cells Y'; (try simp only [List.cons_append, List.nil_append] at N'); (try dsimp only); (try k_fold))))
  k_with "m:cl sub" => (first | exact fun _ h => h | exact List.forall_mem_nil _ | kcj_all)
  k_with "m:cl end" => ((refine' cl_end ?h ?N ?F ?N2 ?_ ?_; (case h => assumption); (case N => assumption); (case F => k_asm); (case N2 => k_asm); rotate_left))
  k_with "m:cl int" => ((refine' cl_end ?h ?N ?F ?N2 ?hn (r_int ?_); (case h => assumption); (case N => assumption); (case F => k_asm); (case N2 => k_asm); (case hn => walk_at "cl sub")))
  k_with "m:cl str" => ((refine' cl_end ?h ?N ?F ?N2 ?hn (r_str ?_); (case h => assumption); (case N => assumption); (case F => k_asm); (case N2 => k_asm); (case hn => walk_at "cl sub")))
  k_with "m:cl bool" => ((refine' cl_end ?h ?N ?F ?N2 ?hn (r_bool ?_); (case h => assumption); (case N => assumption); (case F => k_asm); (case N2 => k_asm); (case hn => walk_at "cl sub")))
  k_with "m:call builtin:list.append" => ((k_here; (with_reducible show wpAny _ _ (call (Value.builtin _) [Value.ref _, _]) _ _ _); k_dflt (refine' append_K ?k1 ?k2 ?k3 ?_ ?z; (case k1 => k_asm); (case k2 => k_asm); (case k3 => k_upd); (case z => exact Nat.le_of_ble_eq_true rfl); k_whole); intro h' F' N'; (try k_sweep)))
  k_with "m:call ref" => ((k_here; k_dflt (k_extra "call ref")))
  k_with "m:cl off1" => (first | exact List.forall_mem_nil _ | exact OwnOff.ne (by assumption) (by simp) | (refine List.forall_mem_cons.mpr ⟨?_, ?_⟩ <;> walk_at "cl off1") | k_ne)
  k_with "m:cl off" => ((unfold Off; walk_at "cl off1"))
  k_with "m:cl mem" => (first | exact List.forall_mem_nil _ | (refine List.forall_mem_cons.mpr ⟨by k_mem, ?_⟩; walk_at "cl mem") | (intro p9 h9; kst_mem))
  k_with "m:cl all" => (((try simp only [List.cons_append, List.nil_append, List.append_nil]); walk_at "cl mem"))
  k_with "m:execs cons" => ((k_here; (with_reducible refine tok_add ?_); intro tk; (try dsimp only); (try k_fold)))
  k_with "m:storeName" => ((k_here; first | ((with_reducible refine tok_sp ?_); intro t9) | ((with_reducible refine tok_st ?_); intro t9)))
  k_with "m:storeName" => ((k_here; (with_reducible refine store9 ?_)))
  k_with "m:call ref" => ((k_here; k_dflt (refine' cl_use0L (div21_cl _ _ _ _ ?hv) ?k1 ?kC ?k2 ?k3 ?k4 ?k5 ?kK ?kd ?ku ?_; (case k1 => k_asm); (case kC => assumption); (case k2 => k_asm); (case k3 => k_asm); (case k4 => k_asm); (case hv => omega); (case k5 => k_asm); (case kK => first | exact rfl | assumption); (case kd => ktr_room); (case ku => ktr_units)); intro lim9 v9 n9 h9 tk9 lt9 lL9 R9 F9 N9; (obtain ⟨D8, t8, u8, e8, l8, e8'⟩ := R9); subst e8; subst e8'; (try simp only [List.cons_append, List.nil_append, List.append_nil] at N9); (have l1 := allLt_of lt9); (simp only [AllLt, and_true] at l1); (try dsimp only); (try k_fold)))
  k_with "m:use73" => (((case k1 => k_asm); (case kC => assumption); (case k2 => k_asm); (case k3 => k_asm); (case k4 => k_asm); (case ha => walk_at "cl all"); (case hn => omega); (case kO => walk_at "cl off"); (case k5 => k_asm); (case kK => first | exact rfl | assumption); (case kd => ktr_room); (case ku => ktr_units); intro lim7 v7 n7 h7 tk7 lt7 lL7 R7 F7 N7; (obtain ⟨p7, t7, e7, e7'⟩ := R7); subst e7; subst e7'; (try simp only [List.cons_append, List.nil_append, List.append_nil] at N7); (have l1 := allLt_of lt7); (simp only [AllLt, and_true] at l1); (try dsimp only); (try k_fold); k_steps))
  k_steps
  refine' cl_useL (rest := [(68, tabObj #[])]) (digits1_cl a 9 k _ _ ha (by decide) hk1 hk16 hk0) ?k1 ?kC ?k2 ?k3 ?k4 ?ha ?kO ?k5 ?kK ?kd ?ku ?_
  case k1 => k_asm
  case kC => assumption
  case k2 => k_asm
  case k3 => k_asm
  case k4 => k_asm
  case ha => walk_at "cl all"
  case kO => walk_at "cl off"
  case k5 => k_asm
  case kK => first | exact rfl | assumption
  case kd => ktr_room
  case ku => ktr_units
  intro lim9 v9 n9 h9 tk9 lt9 lL9 R9 F9 N9
  obtain ⟨D9, vs9, j9, c, oc, e9, I9, l9, l9c, hoc, e9'⟩ := R9
  subst e9
  subst e9'
  simp only [List.cons_append, List.nil_append] at N9
  have l1 := allLt_of lt9
  simp only [AllLt, and_true] at l1
  rcases hds with ⟨e, ez⟩ | ⟨e, ez⟩ | e
  · rw [e] at I9
    cases I9
    try dsimp only
    try k_fold
    k_steps
    refine' cl_useL (rest := [(61, tab1 c), (c, oc)]) (toInt0_cl _ _ _ ?hn) ?k1 ?kC ?k2 ?k3 ?k4 ?ha ?kO ?k5 ?kK ?kd ?ku ?_
    walk_at "use73"
    refine' cl_end hret N (by k_asm) (by k_asm) ?hn1 ⟨_, _, _, c, oc, _, _, _, rfl, ?v1, ?v2, ?a1, ?a2, ?a3, hoc, rfl⟩
    case hn1 => walk_at "cl mem"
    case v1 => subst ez; rfl
    case v2 => subst ez; rfl
    case a1 => omega
    case a2 => omega
    case a3 => omega
  · rw [e] at I9
    cases I9
    rename IntsAre _ [] => r9
    cases r9
    try dsimp only
    try k_fold
    have q1 := fd_in ha.1
    k_steps
    refine' cl_useL (rest := [(61, tab1 c), (c, oc)]) (toInt_cl _ _ [(0 * 2 ^ Int.toNat 9 + a).fdiv 256] _ _ (.cons _ _ .nil) (Nat.le_of_ble_eq_true rfl) (Nat.le_of_ble_eq_true rfl) (DB1 (by rw [z9]; omega)) ?hn) ?k1 ?kC ?k2 ?k3 ?k4 ?ha ?kO ?k5 ?kK ?kd ?ku ?_
    walk_at "use73"
    refine' cl_end hret N (by k_asm) (by k_asm) ?hn1 ⟨_, _, _, c, oc, _, _, _, rfl, ?v1, ?v2, ?a1, ?a2, ?a3, hoc, rfl⟩
    case hn1 => walk_at "cl mem"
    case v1 => rw [dInt1, z9]
    case v2 => rw [z9]
    case a1 => omega
    case a2 => omega
    case a3 => omega
  · rw [e] at I9
    cases I9
    rename IntsAre _ [_] => r9
    cases r9
    rename IntsAre _ [] => r9
    cases r9
    try dsimp only
    try k_fold
    have q1 := fd_in ha.1
    k_steps
    refine' cl_useL (rest := [(61, tab1 c), (c, oc)]) (toInt_cl _ _ [((0 * 2 ^ Int.toNat 9 + a.fdiv 512).fmod 256 * 2 ^ Int.toNat 9 + a.fmod 512).fdiv 256, (0 * 2 ^ Int.toNat 9 + a.fdiv 512).fdiv 256] _ _ (.cons _ _ (.cons _ _ .nil)) (Nat.le_of_ble_eq_true rfl) (Nat.le_of_ble_eq_true rfl) (DB2 (by rw [join9 ha]; omega) (by rw [top0 ha]; decide)) ?hn) ?k1 ?kC ?k2 ?k3 ?k4 ?ha ?kO ?k5 ?kK ?kd ?ku ?_
    walk_at "use73"
    refine' cl_end hret N (by k_asm) (by k_asm) ?hn1 ⟨_, _, _, c, oc, _, _, _, rfl, ?v1, ?v2, ?a1, ?a2, ?a3, hoc, rfl⟩
    case hn1 => walk_at "cl mem"
    case v1 => rw [dInt2, top0 ha, join9 ha, z9]
    case v2 => rw [join9 ha]
    case a1 => omega
    case a2 => omega
    case a3 => omega

end
section
theorem rows_a31 : True := by
  k_with_none
  k_with "m:cl enter" => (((refine wpAny_call ?_); k_dflt (refine' code_defV ?k1 ?k2 ?k3 ?k4 ?kO ?k5 ?kA ?kF ?kK ?k6 ?k7 ?k8 ?k9 ?kB ?_ ?c2 ?c3 ?c4 ?c5; (case kA => exact rfl); (case kF => exact rfl); (case kK => assumption); (case k1 => k_asm); (case k2 => k_asm); (case k3 => k_asm); (case k4 => k_asm); (case kO => k_asm); (case k5 => k_asm); (case k6 => k_is); (case k7 => k_is); (case k8 => ktr_room); (case k9 => first | exact BindsTo.of_eq rfl | exact binds_K (by k_in) rfl (by k_is) rfl rfl rfl | (refine' kp_binds ?kx ?ke; (case kx => k_in); (case ke => exact fun _ => rfl))); (case c5 => decide); (case kB => exact locs rfl); (case c2 => exact rfl); (case c3 => exact rfl); (case c4 => exact rfl); k_whole; intro g' L' h' FG' F' N' B' X' T' l1 lim'; (try k_lt l1); (try dsimp only); (try k_fold))))
  k_with "m:cl enterC" => (((refine wpAny_call ?_); k_dflt (refine' code_defCV ?k1 ?k2 ?k3 ?k4 ?kO ?k5 ?kA ?kF ?kK ?k6 ?k7 ?k8 ?k9 ?kB ?kD ?_ ?c2 ?c3 ?c4; (case kA => exact rfl); (case kF => exact rfl); (case kK => assumption); (case k1 => k_asm); (case k2 => k_asm); (case k3 => k_asm); (case k4 => k_asm); (case kO => k_asm); (case k5 => k_asm); (case k6 => k_is); (case k7 => k_is); (case k8 => ktr_room); (case k9 => first | exact BindsTo.of_eq rfl | exact binds_K (by k_in) rfl (by k_is) rfl rfl rfl | (refine' kp_binds ?kx ?ke; (case kx => k_in); (case ke => exact fun _ => rfl))); (case kB => exact rfl); (case kD => decide +kernel); (case c2 => exact rfl); (case c3 => exact rfl); (case c4 => exact rfl); k_whole; intro g' L' h' tk' cells' FG' F' N' Y' B' X' T' l1 lim'; (try k_lt l1); k_cells Y'; (try simp only [List.cons_append, List.nil_append] at N'); (try dsimp only); (try k_fold))))
  k_with "m:cl sub" => (first | exact fun _ h => h | exact List.forall_mem_nil _ | kcj_all)
  k_with "m:cl end" => ((refine' cl_end ?h ?N ?F ?N2 ?_ ?_; (case h => assumption); (case N => assumption); (case F => k_asm); (case N2 => k_asm); rotate_left))
  k_with "m:cl int" => ((refine' cl_end ?h ?N ?F ?N2 ?hn (r_int ?_); (case h => assumption); (case N => assumption); (case F => k_asm); (case N2 => k_asm); (case hn => walk_at "cl sub")))
  k_with "m:cl str" => ((refine' cl_end ?h ?N ?F ?N2 ?hn (r_str ?_); (case h => assumption); (case N => assumption); (case F => k_asm); (case N2 => k_asm); (case hn => walk_at "cl sub")))
  k_with "m:cl bool" => ((refine' cl_end ?h ?N ?F ?N2 ?hn (r_bool ?_); (case h => assumption); (case N => assumption); (case F => k_asm); (case N2 => k_asm); (case hn => walk_at "cl sub")))
  k_with "m:call builtin:list.append" => ((k_here; (with_reducible show wpAny _ _ (call (Value.builtin _) [Value.ref _, _]) _ _ _); k_dflt (refine' append_K ?k1 ?k2 ?k3 ?_ ?z; (case k1 => k_asm); (case k2 => k_asm); (case k3 => k_upd); (case z => exact Nat.le_of_ble_eq_true rfl); k_whole); intro h' F' N'; (try k_sweep)))
  k_with "m:call ref" => ((k_here; k_dflt (k_extra "call ref")))
  k_with "m:cl off1" => (first | exact List.forall_mem_nil _ | exact OwnOff.ne (by assumption) (by simp) | (refine List.forall_mem_cons.mpr ⟨?_, ?_⟩ <;> walk_at "cl off1") | k_ne)
  k_with "m:cl off" => ((unfold Off; walk_at "cl off1"))
  k_with "m:cl mem" => (first | exact List.forall_mem_nil _ | (refine List.forall_mem_cons.mpr ⟨by k_mem, ?_⟩; walk_at "cl mem") | (intro p9 h9; kst_mem))
  k_with "m:cl all" => (((try simp only [List.cons_append, List.nil_append, List.append_nil]); walk_at "cl mem"))
  k_with "m:execs cons" => ((k_here; (with_reducible refine tok_add ?_); intro tk; (try dsimp only); (try k_fold)))
  k_with "m:storeName" => ((k_here; first | ((with_reducible refine tok_sp ?_); intro t9) | ((with_reducible refine tok_st ?_); intro t9)))
  k_with "m:call ref" => ((k_here; k_dflt (refine' cl_useL (rest := []) (pos_cl _ _ _ ?hv) ?k1 ?kC ?k2 ?k3 ?k4 ?ha ?kO ?k5 ?kK ?kd ?ku ?_; (case k1 => k_asm); (case kC => assumption); (case k2 => k_asm); (case k3 => k_asm); (case k4 => k_asm); (case hv => assumption); (case ha => walk_at "cl all"); (case kO => exact off_nil); (case k5 => k_asm); (case kK => first | exact rfl | assumption); (case kd => ktr_room); (case ku => ktr_units)); intro lim9 v9 n9 h9 tk9 lt9 lL9 R9 F9 N9; (obtain ⟨D9, t9, u9, c9, oc9, x9, y9, p9, e9, ex9, ey9, l9, l99, l98, ho9, e9'⟩ := R9); subst e9; subst e9'; (try simp only [List.cons_append, List.nil_append, List.append_nil] at N9); (try dsimp only); (try k_fold)))
  trivial
theorem div_cl (a : Int) (ta tb : Tok) (ha : 0 ≤ a ∧ a < 65536) :
    Cl w p loose mean mg mb 87 80 800 [.int a ta, .int 256 tb] [(61, tabObj #[]), (68, tabObj #[])] (RPair (a.fdiv 256) (a.fmod 256)) := by
  unfold Cl
  k_fill
  intro rest dp un gd cn cs a₀ ccd cl outer A₀ base h₀ L m s Q E B CD F X N O T hk hd hu hret
  walk_at "cl enter"
  k_with_none
  k_with "m:cl enter" => (((refine wpAny_call ?_); k_dflt (refine' code_defV ?k1 ?k2 ?k3 ?k4 ?kO ?k5 ?kA ?kF ?kK ?k6 ?k7 ?k8 ?k9 ?kB ?_ ?c2 ?c3 ?c4 ?c5; (case kA => exact rfl); (case kF => exact rfl); (case kK => assumption); (case k1 => k_asm); (case k2 => k_asm); (case k3 => k_asm); (case k4 => k_asm); (case kO => k_asm); (case k5 => k_asm); (case k6 => k_is); (case k7 => k_is); (case k8 => ktr_room); (case k9 => first | exact BindsTo.of_eq rfl | exact binds_K (by k_in) rfl (by k_is) rfl rfl rfl | (refine' kp_binds ?kx ?ke; (case kx => k_in); (case ke => exact fun _ => rfl))); (case c5 => decide); (case kB => exact locs rfl); (case c2 => exact rfl); (case c3 => exact rfl); (case c4 => exact rfl); k_whole; intro g' L' h' FG' F' N' B' X' T' l1 lim'; (try k_lt l1); (try dsimp only); (try k_fold))))
  k_with "m:cl enterC" => (((refine wpAny_call ?_); k_dflt (refine' code_defCV ?k1 ?k2 ?k3 ?k4 ?kO ?k5 ?kA ?kF ?kK ?k6 ?k7 ?k8 ?k9 ?kB ?kD ?_ ?c2 ?c3 ?c4; (case kA => exact rfl); (case kF => exact rfl); (case kK => assumption); (case k1 => k_asm); (case k2 => k_asm); (case k3 => k_asm); (case k4 => k_asm); (case kO => k_asm); (case k5 => k_asm); (case k6 => k_is); (case k7 => k_is); (case k8 => ktr_room); (case k9 => first | exact BindsTo.of_eq rfl | exact binds_K (by k_in) rfl (by k_is) rfl rfl rfl | (refine' kp_binds ?kx ?ke; (case kx => k_in); (case ke => exact fun _ => rfl))); (case kB => exact rfl); (case kD => decide +kernel); (case c2 => exact rfl); (case c3 => exact rfl); (case c4 => exact rfl); k_whole; intro g' L' h' tk' cells' FG' F' N' Y' B' X' T' l1 lim'; (try k_lt l1); k_cells Y'; (try simp only [List.cons_append, List.nil_append] at N'); (try dsimp only); (try k_fold))))
  k_with "m:cl sub" => (first | exact fun _ h => h | exact List.forall_mem_nil _ | kcj_all)
  k_with "m:cl end" => ((refine' cl_end ?h ?N ?F ?N2 ?_ ?_; (case h => assumption); (case N => assumption); (case F => k_asm); (case N2 => k_asm); rotate_left))
  k_with "m:cl int" => ((refine' cl_end ?h ?N ?F ?N2 ?hn (r_int ?_); (case h => assumption); (case N => assumption); (case F => k_asm); (case N2 => k_asm); (case hn => walk_at "cl sub")))
  k_with "m:cl str" => ((refine' cl_end ?h ?N ?F ?N2 ?hn (r_str ?_); (case h => assumption); (case N => assumption); (case F => k_asm); (case N2 => k_asm); (case hn => walk_at "cl sub")))
  k_with "m:cl bool" => ((refine' cl_end ?h ?N ?F ?N2 ?hn (r_bool ?_); (case h => assumption); (case N => assumption); (case F => k_asm); (case N2 => k_asm); (case hn => walk_at "cl sub")))
  k_with "m:call builtin:list.append" => ((k_here; (with_reducible show wpAny _ _ (call (Value.builtin _) [Value.ref _, _]) _ _ _); k_dflt (refine' append_K ?k1 ?k2 ?k3 ?_ ?z; (case k1 => k_asm); (case k2 => k_asm); (case k3 => k_upd); (case z => exact Nat.le_of_ble_eq_true rfl); k_whole); intro h' F' N'; (try k_sweep)))
  k_with "m:call ref" => ((k_here; k_dflt (k_extra "call ref")))
  k_with "m:cl off1" => (first | exact List.forall_mem_nil _ | exact OwnOff.ne (by assumption) (by simp) | (refine List.forall_mem_cons.mpr ⟨?_, ?_⟩ <;> walk_at "cl off1") | k_ne)
  k_with "m:cl off" => ((unfold Off; walk_at "cl off1"))
  k_with "m:cl mem" => (first | exact List.forall_mem_nil _ | (refine List.forall_mem_cons.mpr ⟨by k_mem, ?_⟩; walk_at "cl mem") | (intro p9 h9; kst_mem))
  k_with "m:cl all" => (((try simp only [List.cons_append, List.nil_append, List.append_nil]); walk_at "cl mem"))
  k_with "m:execs cons" => ((k_here; (with_reducible refine tok_add ?_); intro tk; (try dsimp only); (try k_fold)))
  k_with "m:storeName" => ((k_here; first | ((with_reducible refine tok_sp ?_); intro t9) | ((with_reducible refine tok_st ?_); intro t9)))
  k_with "m:call ref" => ((k_here; k_dflt (refine' cl_useL (rest := []) (pos_cl _ _ _ ?hv) ?k1 ?kC ?k2 ?k3 ?k4 ?ha ?kO ?k5 ?kK ?kd ?ku ?_; (case k1 => k_asm); (case kC => assumption); (case k2 => k_asm); (case k3 => k_asm); (case k4 => k_asm); (case hv => assumption); (case ha => walk_at "cl all"); (case kO => exact off_nil); (case k5 => k_asm); (case kK => first | exact rfl | assumption); (case kd => ktr_room); (case ku => ktr_units)); intro lim9 v9 n9 h9 tk9 lt9 lL9 R9 F9 N9; (obtain ⟨D9, t9, u9, c9, oc9, x9, y9, p9, e9, ex9, ey9, l9, l99, l98, ho9, e9'⟩ := R9); subst e9; subst e9'; (try simp only [List.cons_append, List.nil_append, List.append_nil] at N9); (try dsimp only); (try k_fold)))
  k_steps
  refine' cl_end hret N (by k_asm) (by k_asm) ?hn1 ⟨_, _, _, _, _, _, _, _, rfl, ?v1, ?v2, ?a1, ?a2, ?a3, ?a4, rfl⟩
  case hn1 => walk_at "cl mem"
  case v1 => assumption
  case v2 => assumption
  case a1 => omega
  case a2 => omega
  case a3 => omega
  case a4 => assumption

end
section
section
variable {prog : Program} {A₀ A : Around} {s : Shared} {base h₀ : Heap} {outer : List Env} {L : Addr} {m : Str → Option Value} {env : Env} {vis rest : List (Addr × Obj)} {K : Frag}
  {R : Result → Shared → Prop} {name qual : Str} {params : Arguments} {body : List Stmt} {scope : Scope} {dV kV doc pm cdv ct oc : Value} {an od : Option Addr} {osl : Array (Option Value)} {f : Addr} {args : Args} {binds : List (Str × Value)}
/-- as code_defV, and the callee's ground keeps what it does not see -/
theorem code_defW (B : Below A₀ base outer h₀) (F : Fr h₀ L s.heap m) (X₀ : K.In h₀) (N : News h₀ L s.heap (vis ++ rest)) (O : Off vis rest) (T : Top p loose mean mg mb h₀) (hA : A.frames = some (env :: outer)) (hf : env.frame = some L) (hke : env.scope.kind = .function)
    (ho : K.lookup f = some ⟨oc, od, .func (fnOf name qual params body scope dV kV doc pm an cdv ct), osl⟩) (hcd : codeIn K cdv qual = true) (hroom : A.depth < recursionLimit)
    (hbind : BindsTo s (fnOf name qual params body scope dV kV doc pm an cdv ct) args binds) (hloc : ∀ y ∈ binds, scope.names.lookup y.1 = some .local)
    (h : ∀ g L' h₁, (∀ b o, s.heap.get? b = some o → (∀ q ∈ vis, b ≠ q.1) → g.get? b = some o) → Fr h₀ L g m → Fr g L' h₁ (fun y => binds.reverse.lookup y) → News g L' h₁ vis → Below A base (env :: outer) g → K.In g → Top p loose mean mg mb g → (∀ q ∈ vis, q.1 < L') → s.heap.objs.size ≤ L' →
      wpAny (model prog w) (A.deeper (envOf qual scope L' f cdv)) (execs body (envOf qual scope L' f cdv))
        (fun fl s' => LeaveK h₀ L m g (fun r s'' => ClEnd rest s''.heap (R r s'')) (match fl with | .ret v => v | _ => .none) s')
        (fun e s' => wpAny (model prog w) (A.deeper (envOf qual scope L' f cdv)) (leaving (envOf qual scope L' f cdv) e) (fun _ s'' => R (.error e) s'') (fun e' s'' => R (.error e') s'') s')
        { s with heap := h₁, toks := s.toks + binds.length })
    (hco : scope.isCoroutine = false) (hgen : scope.isGenerator = false) (hk : scope.kind = .function)
    (hcell : ∀ x ∈ scope.names, x.2 ≠ .cell) : codeAny (model prog w) A (.call (.ref f) args) R s := by
  have NV : News h₀ L s.heap vis := fun q hq => N q (List.mem_append_left _ hq)
  obtain ⟨FG, BG, st, lv⟩ := groundX (R := fun r s'' => ClEnd rest s''.heap (R r s'')) B F NV hA hf hke
  refine codeAny_call_def (fd := fnOf name qual params body scope dV kV doc pm an cdv ct) (body := body) (binds := binds) hroom ((X₀.keeps F.keep) _ _ ho) rfl (T.nolimit.keeps F.keep) (codeRec_of (X₀.keeps F.keep) hcd) rfl hbind hcell hloc (fun h₁ hns hk₁ => ?_) hco hgen hk
  refine wpAny_mono (h _ s.heap.objs.size h₁ (fun b o e hn => hideAll_get _ e fun hm => ?_) FG ⟨hns, fun b o e => hk₁ b o (of_hideAll _ e), Nat.le_of_eq (hideAll_size _ _)⟩
    (fun q hq => ⟨hk₁ _ _ (NV q hq).1, Nat.ne_of_lt (Heap.lt_size (NV q hq).1), hideAll_none _ (List.mem_map_of_mem hq)⟩) BG (X₀.keeps st) (T.keeps st) (fun q hq => Heap.lt_size (NV q hq).1) (Nat.le_refl _)) (fun fl s' hl => ?_) fun _ _ y => y
  · obtain ⟨r, hr, e'⟩ := List.mem_map.mp hm
    exact hn r hr e'.symm
  · have q := lv _ _ hl
    obtain ⟨L', m', news', F', _, _⟩ := hl
    exact q (kept_of N O rfl F')
end
/-- the table `reach`: the outer list's refs, each row a list of ints -/
structure RowsIn (h : Heap) (R : Addr) (rs : List Addr) (D : List (List Int)) : Prop where
  o : ∃ n, h.get? R = some (listOf (rs.map Value.ref).toArray n)
  l : rs.length = D.length
  r : ∀ k : Nat, k < D.length → ∃ vs n, h.get? (rs.getD k 0) = some (listOf vs.toArray n) ∧ IntsAre vs (D.getD k [])
theorem RowsIn.mono {h g : Heap} {R : Addr} {rs : List Addr} {D : List (List Int)} {vis : List (Addr × Obj)} (i : RowsIn h R rs D) (k : ∀ b o, h.get? b = some o → (∀ q ∈ vis, b ≠ q.1) → g.get? b = some o) (off : ∀ a ∈ R :: rs, ∀ q ∈ vis, a ≠ q.1) : RowsIn g R rs D where
  o := let ⟨n, e⟩ := i.o; ⟨n, k _ _ e (off _ (.head _))⟩
  l := i.l
  r := fun j hj => by
    obtain ⟨vs, n, e, q⟩ := i.r j hj
    refine ⟨vs, n, k _ _ e (off _ (.tail _ ?_)), q⟩
    have hl := i.l
    rw [List.getD_eq_getElem?_getD, List.getElem?_eq_getElem (by omega)]
    exact List.getElem_mem _
theorem RowsIn.keep {h g : Heap} {R : Addr} {rs : List Addr} {D : List (List Int)} (i : RowsIn h R rs D) (k : ∀ b o, h.get? b = some o → g.get? b = some o) : RowsIn g R rs D :=
  i.mono (vis := []) (fun b o e _ => k b o e) (fun _ _ _ hq => nomatch hq)
abbrev ClP (w : World) (p : Program) (loose : List Str) (mean : ExcName → Option Value) (mg mb : Str → Option Value) (Pre : Heap → Prop) (f : Addr) (dd du : Nat) (vs : List Value) (vis : List (Addr × Obj)) (Ret : Addr → Value → List (Addr × Obj) → Prop) : Prop :=
  ∀ (rest : List (Addr × Obj)) (dp un : Nat) (gd : Option (List Code)) (cn : Str) (cs : Scope) (a : Addr) (ccd : Value) (cl : List (Str × Addr)) (outer : List Env) (A₀ : Around) (base h₀ : Heap) (L : Addr) (m : Str → Option Value) (s : Shared) (Q E : Value → Shared → Prop),
    Pre s.heap → Below A₀ base outer h₀ → Cds base → Fr h₀ L s.heap m → (hd.heap_39 w.params).In h₀ → News h₀ L s.heap (vis ++ rest) → Off vis rest → Top p loose mean mg mb h₀ → cs.kind = .function →
    dp + dd < recursionLimit → un + du < cLine →
    (∀ v vis' h' tk', Ret s.heap.objs.size v vis' → Fr h₀ L h' m → News h₀ L h' (vis' ++ rest) → Q v { s with heap := h', toks := tk' }) →
    wpAny (model PySem.Challenge.rw_sn0086_01.row.prog w) (ktrTop dp un gd cn cs L a ccd cl outer) (call (.ref f) vs) Q E s

end
section
section
variable {prog : Program} {A : Around} {s : Shared} {value slice : PySem.Expr} {R : Addr} {rs : List Addr} {D : List (List Int)} {k : Int} {u : Tok} {E : Value → Shared → Prop} {Q : Value → Shared → Prop}
/-- reach[k] -/
theorem rows_a32 : True := by
  k_with_none
  k_with "m:cl enter" => (((refine wpAny_call ?_); k_dflt (refine' code_defV ?k1 ?k2 ?k3 ?k4 ?kO ?k5 ?kA ?kF ?kK ?k6 ?k7 ?k8 ?k9 ?kB ?_ ?c2 ?c3 ?c4 ?c5; (case kA => exact rfl); (case kF => exact rfl); (case kK => assumption); (case k1 => k_asm); (case k2 => k_asm); (case k3 => k_asm); (case k4 => k_asm); (case kO => k_asm); (case k5 => k_asm); (case k6 => k_is); (case k7 => k_is); (case k8 => ktr_room); (case k9 => first | exact BindsTo.of_eq rfl | exact binds_K (by k_in) rfl (by k_is) rfl rfl rfl | (refine' kp_binds ?kx ?ke; (case kx => k_in); (case ke => exact fun _ => rfl))); (case c5 => decide); (case kB => exact locs rfl); (case c2 => exact rfl); (case c3 => exact rfl); (case c4 => exact rfl); k_whole; intro g' L' h' FG' F' N' B' X' T' l1 lim'; (try k_lt l1); (try dsimp only); (try k_fold))))
  k_with "m:cl enterC" => (((refine wpAny_call ?_); k_dflt (refine' code_defCV ?k1 ?k2 ?k3 ?k4 ?kO ?k5 ?kA ?kF ?kK ?k6 ?k7 ?k8 ?k9 ?kB ?kD ?_ ?c2 ?c3 ?c4; (case kA => exact rfl); (case kF => exact rfl); (case kK => assumption); (case k1 => k_asm); (case k2 => k_asm); (case k3 => k_asm); (case k4 => k_asm); (case kO => k_asm); (case k5 => k_asm); (case k6 => k_is); (case k7 => k_is); (case k8 => ktr_room); (case k9 => first | exact BindsTo.of_eq rfl | exact binds_K (by k_in) rfl (by k_is) rfl rfl rfl | (refine' kp_binds ?kx ?ke; (case kx => k_in); (case ke => exact fun _ => rfl))); (case kB => exact rfl); (case kD => decide +kernel); (case c2 => exact rfl); (case c3 => exact rfl); (case c4 => exact rfl); k_whole; intro g' L' h' tk' cells' FG' F' N' Y' B' X' T' l1 lim'; (try k_lt l1); k_cells Y'; (try simp only [List.cons_append, List.nil_append] at N'); (try dsimp only); (try k_fold))))
  k_with "m:cl sub" => (first | exact fun _ h => h | exact List.forall_mem_nil _ | kcj_all)
  k_with "m:cl end" => ((refine' cl_end ?h ?N ?F ?N2 ?_ ?_; (case h => assumption); (case N => assumption); (case F => k_asm); (case N2 => k_asm); rotate_left))
  k_with "m:cl int" => ((refine' cl_end ?h ?N ?F ?N2 ?hn (r_int ?_); (case h => assumption); (case N => assumption); (case F => k_asm); (case N2 => k_asm); (case hn => walk_at "cl sub")))
  k_with "m:cl str" => ((refine' cl_end ?h ?N ?F ?N2 ?hn (r_str ?_); (case h => assumption); (case N => assumption); (case F => k_asm); (case N2 => k_asm); (case hn => walk_at "cl sub")))
  k_with "m:cl bool" => ((refine' cl_end ?h ?N ?F ?N2 ?hn (r_bool ?_); (case h => assumption); (case N => assumption); (case F => k_asm); (case N2 => k_asm); (case hn => walk_at "cl sub")))
  k_with "m:call builtin:list.append" => ((k_here; (with_reducible show wpAny _ _ (call (Value.builtin _) [Value.ref _, _]) _ _ _); k_dflt (refine' append_K ?k1 ?k2 ?k3 ?_ ?z; (case k1 => k_asm); (case k2 => k_asm); (case k3 => k_upd); (case z => exact Nat.le_of_ble_eq_true rfl); k_whole); intro h' F' N'; (try k_sweep)))
  k_with "m:call ref" => ((k_here; k_dflt (k_extra "call ref")))
  k_with "m:cl off1" => (first | exact List.forall_mem_nil _ | exact OwnOff.ne (by assumption) (by simp) | (refine List.forall_mem_cons.mpr ⟨?_, ?_⟩ <;> walk_at "cl off1") | k_ne)
  k_with "m:cl off" => ((unfold Off; walk_at "cl off1"))
  k_with "m:cl mem" => (first | exact List.forall_mem_nil _ | (refine List.forall_mem_cons.mpr ⟨by k_mem, ?_⟩; walk_at "cl mem") | (intro p9 h9; kst_mem))
  k_with "m:cl all" => (((try simp only [List.cons_append, List.nil_append, List.append_nil]); walk_at "cl mem"))
  k_with "m:execs cons" => ((k_here; (with_reducible refine tok_add ?_); intro tk; (try dsimp only); (try k_fold)))
  k_with "m:storeName" => ((k_here; first | ((with_reducible refine tok_sp ?_); intro t9) | ((with_reducible refine tok_st ?_); intro t9)))
  trivial
theorem row_sub (i : RowsIn s.heap R rs D) (h0 : 0 ≤ k) (h1 : k < D.length) (hb : D.length ≤ 100) (h : ∀ a vs, s.heap.IsList a vs.toArray → IntsAre vs (D.getD k.toNat []) → Q (.ref a) s)
    (hs : subscripted slice false (.ref R) (.int k u) = operate [.ref R, .int k u] (getItem (.ref R) (.int k u))) :
    wpAny (model prog w) A (subscriptTail value slice (.ref R) (.int k u)) Q E s := by
  obtain ⟨n, e⟩ := i.o
  obtain ⟨vs, n2, q0, q2⟩ := i.r k.toNat (by omega)
  have q : s.heap.IsList (rs.getD k.toNat 0) vs.toArray := ⟨_, q0, rfl, n2, rfl⟩
  have hl : s.heap.IsList R (rs.map Value.ref).toArray := ⟨_, e, rfl, n, rfl⟩
  have l := i.l
  refine tail_any hl.typeIs slot_list_getitem.lookup (wpAny_getItem_list (x := .ref (rs.getD k.toNat 0)) hl h0 (by omega) ?_ (h _ vs q q2)) hs
  simp [List.getD_eq_getElem?_getD, List.getElem?_eq_getElem (show k.toNat < rs.length by omega)]
/-- an int of such a row -/
theorem cell_sub {vs : List Value} {ns : List Int} (hl : s.heap.IsList R vs.toArray) (hi : IntsAre vs ns) (h0 : 0 ≤ k) (h1 : k < ns.length) (hb : ns.length ≤ 100) (h : ∀ t, Q (.int (ns.getD k.toNat 0) t) s)
    (hs : subscripted slice false (.ref R) (.int k u) = operate [.ref R, .int k u] (getItem (.ref R) (.int k u))) :
    wpAny (model prog w) A (subscriptTail value slice (.ref R) (.int k u)) Q E s := item_anyK hl hi h0 h1 (by omega) h hs
end
noncomputable def cellF (D : List (List Int)) (i j : Int) : Int := (D.getD i.toNat []).getD j.toNat 0
/-- no turn of `ts` lies on the way from a to b -/
noncomputable def freeF (D : List (List Int)) (a b : Int) (ts : List Int) : Bool := ts.all fun t => !decide (cellF D a t + cellF D t b = cellF D a b)
structure Sq (D : List (List Int)) : Prop where
  l : D.length = 8
  r : ∀ k : Nat, k < 8 → (D.getD k []).length = 8
structure FInv (D : List (List Int)) (a b : Int) (pre : List Int) : Prop where
  e : freeF D a b pre = true
theorem rows_a33 : True := by
  k_with_none
  k_with "m:cl enter" => (((refine wpAny_call ?_); k_dflt (refine' code_defV ?k1 ?k2 ?k3 ?k4 ?kO ?k5 ?kA ?kF ?kK ?k6 ?k7 ?k8 ?k9 ?kB ?_ ?c2 ?c3 ?c4 ?c5; (case kA => exact rfl); (case kF => exact rfl); (case kK => assumption); (case k1 => k_asm); (case k2 => k_asm); (case k3 => k_asm); (case k4 => k_asm); (case kO => k_asm); (case k5 => k_asm); (case k6 => k_is); (case k7 => k_is); (case k8 => ktr_room); (case k9 => first | exact BindsTo.of_eq rfl | exact binds_K (by k_in) rfl (by k_is) rfl rfl rfl | (refine' kp_binds ?kx ?ke; (case kx => k_in); (case ke => exact fun _ => rfl))); (case c5 => decide); (case kB => exact locs rfl); (case c2 => exact rfl); (case c3 => exact rfl); (case c4 => exact rfl); k_whole; intro g' L' h' FG' F' N' B' X' T' l1 lim'; (try k_lt l1); (try dsimp only); (try k_fold))))
  k_with "m:cl enterC" => (((refine wpAny_call ?_); k_dflt (refine' code_defCV ?k1 ?k2 ?k3 ?k4 ?kO ?k5 ?kA ?kF ?kK ?k6 ?k7 ?k8 ?k9 ?kB ?kD ?_ ?c2 ?c3 ?c4; (case kA => exact rfl); (case kF => exact rfl); (case kK => assumption); (case k1 => k_asm); (case k2 => k_asm); (case k3 => k_asm); (case k4 => k_asm); (case kO => k_asm); (case k5 => k_asm); (case k6 => k_is); (case k7 => k_is); (case k8 => ktr_room); (case k9 => first | exact BindsTo.of_eq rfl | exact binds_K (by k_in) rfl (by k_is) rfl rfl rfl | (refine' kp_binds ?kx ?ke; (case kx => k_in); (case ke => exact fun _ => rfl))); (case kB => exact rfl); (case kD => decide +kernel); (case c2 => exact rfl); (case c3 => exact rfl); (case c4 => exact rfl); k_whole; intro g' L' h' tk' cells' FG' F' N' Y' B' X' T' l1 lim'; (try k_lt l1); k_cells Y'; (try simp only [List.cons_append, List.nil_append] at N'); (try dsimp only); (try k_fold))))
  k_with "m:cl sub" => (first | exact fun _ h => h | exact List.forall_mem_nil _ | kcj_all)
  k_with "m:cl end" => ((refine' cl_end ?h ?N ?F ?N2 ?_ ?_; (case h => assumption); (case N => assumption); (case F => k_asm); (case N2 => k_asm); rotate_left))
  k_with "m:cl int" => ((refine' cl_end ?h ?N ?F ?N2 ?hn (r_int ?_); (case h => assumption); (case N => assumption); (case F => k_asm); (case N2 => k_asm); (case hn => walk_at "cl sub")))
  k_with "m:cl str" => ((refine' cl_end ?h ?N ?F ?N2 ?hn (r_str ?_); (case h => assumption); (case N => assumption); (case F => k_asm); (case N2 => k_asm); (case hn => walk_at "cl sub")))
  k_with "m:cl bool" => ((refine' cl_end ?h ?N ?F ?N2 ?hn (r_bool ?_); (case h => assumption); (case N => assumption); (case F => k_asm); (case N2 => k_asm); (case hn => walk_at "cl sub")))
  k_with "m:call builtin:list.append" => ((k_here; (with_reducible show wpAny _ _ (call (Value.builtin _) [Value.ref _, _]) _ _ _); k_dflt (refine' append_K ?k1 ?k2 ?k3 ?_ ?z; (case k1 => k_asm); (case k2 => k_asm); (case k3 => k_upd); (case z => exact Nat.le_of_ble_eq_true rfl); k_whole); intro h' F' N'; (try k_sweep)))
  k_with "m:call ref" => ((k_here; k_dflt (k_extra "call ref")))
  k_with "m:cl off1" => (first | exact List.forall_mem_nil _ | exact OwnOff.ne (by assumption) (by simp) | (refine List.forall_mem_cons.mpr ⟨?_, ?_⟩ <;> walk_at "cl off1") | k_ne)
  k_with "m:cl off" => ((unfold Off; walk_at "cl off1"))
  k_with "m:cl mem" => (first | exact List.forall_mem_nil _ | (refine List.forall_mem_cons.mpr ⟨by k_mem, ?_⟩; walk_at "cl mem") | (intro p9 h9; kst_mem))
  k_with "m:cl all" => (((try simp only [List.cons_append, List.nil_append, List.append_nil]); walk_at "cl mem"))
  k_with "m:execs cons" => ((k_here; (with_reducible refine tok_add ?_); intro tk; (try dsimp only); (try k_fold)))
  k_with "m:storeName" => ((k_here; first | ((with_reducible refine tok_sp ?_); intro t9) | ((with_reducible refine tok_st ?_); intro t9)))
  k_with "m:cl enterW" => (((refine wpAny_call ?_); k_dflt (refine' code_defW ?k1 ?k2 ?k3 ?k4 ?kO ?k5 ?kA ?kF ?kK ?k6 ?k7 ?k8 ?k9 ?kB ?_ ?c2 ?c3 ?c4 ?c5; (case kA => exact rfl); (case kF => exact rfl); (case kK => assumption); (case k1 => k_asm); (case k2 => k_asm); (case k3 => k_asm); (case k4 => k_asm); (case kO => k_asm); (case k5 => k_asm); (case k6 => k_is); (case k7 => k_is); (case k8 => ktr_room); (case k9 => first | exact BindsTo.of_eq rfl | exact binds_K (by k_in) rfl (by k_is) rfl rfl rfl); (case c5 => decide); (case kB => exact locs rfl); (case c2 => exact rfl); (case c3 => exact rfl); (case c4 => exact rfl); k_whole; intro g' L' h' kg' FG' F' N' B' X' T' l1 lim'; (try k_lt l1); (try dsimp only); (try k_fold))))
  k_with "m:subscriptTail Name Name ref int" => ((k_here; (with_reducible show wpAny _ _ (subscriptTail _ _ (Value.ref _) (Value.int _ _)) _ _ _); k_dflt (refine' row_sub ?r1 ?r2 ?r3 ?r4 ?_ ?r5; (case r1 => (k_extra "rows")); (case r2 => (k_extra "cell0")); (case r3 => (k_extra "rowl")); (case r4 => (k_extra "rowl")); (case r5 => with_unfolding_all rfl); k_whole); intro a8 vs8 hl8 hi8))
  k_with "m:subscriptTail" => ((k_here; (with_reducible show wpAny _ _ (subscriptTail _ _ (Value.ref _) (Value.int _ _)) _ _ _); k_dflt (refine' cell_sub ?r1 ?r2 ?r3 ?r4 ?r6 ?_ ?r5; (case r1 => with_reducible assumption); (case r2 => with_reducible assumption); (case r3 => (k_extra "cell0")); (case r4 => (k_extra "celll")); (case r6 => (k_extra "celll")); (case r5 => with_unfolding_all rfl); k_whole); intro t8))
  trivial
theorem fi_0 {D : List (List Int)} {a b : Int} : FInv D a b [] := ⟨rfl⟩
theorem fi_t {D : List (List Int)} {a b t : Int} {pre : List Int} (i : FInv D a b pre) (h : ¬ (D.getD a.toNat []).getD t.toNat 0 + (D.getD t.toNat []).getD b.toNat 0 = (D.getD a.toNat []).getD b.toNat 0) : FInv D a b (pre ++ [t]) := ⟨by
  have e := i.e
  unfold freeF at e ⊢
  rw [List.all_append, e, List.all_cons, List.all_nil]
  unfold cellF
  rw [decide_eq_false h]; rfl⟩
theorem fi_f {D : List (List Int)} {a b t : Int} {ts : List Int} (hm : t ∈ ts) (h : (D.getD a.toNat []).getD t.toNat 0 + (D.getD t.toNat []).getD b.toNat 0 = (D.getD a.toNat []).getD b.toNat 0) : freeF D a b ts = false := by
  unfold freeF cellF
  rw [List.all_eq_false]
  exact ⟨t, hm, by rw [decide_eq_true h]; decide⟩
theorem Sq.a {D : List (List Int)} (h : Sq D) {k : Int} (hk : k < 8) : k < D.length := by rw [h.l]; omega
theorem Sq.b {D : List (List Int)} (h : Sq D) : D.length ≤ 100 := by rw [h.l]; decide
theorem Sq.c {D : List (List Int)} (h : Sq D) {j k : Int} (h0 : 0 ≤ j ∧ j < 8) (hk : k < 8) : k < ((D.getD j.toNat []).length : Int) := by rw [h.r _ (by omega)]; omega
theorem Sq.d {D : List (List Int)} (h : Sq D) {j : Int} (h0 : 0 ≤ j ∧ j < 8) : (D.getD j.toNat []).length ≤ 100 := by rw [h.r _ (by omega)]; decide
set_option maxHeartbeats 1000000 in
theorem free_cl (R T₁ : Addr) (rs : List Addr) (D : List (List Int)) (hD : Sq D) (a b : Int) (ta tb : Tok) (tvs : List Value) (ts : List Int) (n : Nat) (ht : IntsAre tvs ts) (ht8 : ts.length ≤ 8) (hts : ∀ t ∈ ts, 0 ≤ t ∧ t < 8) (ha : 0 ≤ a ∧ a < 8) (hb : 0 ≤ b ∧ b < 8) (off : ∀ r ∈ R :: rs, @Ne Nat r T₁) :
    ClP w p loose mean mg mb (fun h => RowsIn h R rs D) 295 10 80 [.ref R, .int a ta, .int b tb, .ref T₁] [(T₁, listOf tvs.toArray n)] (RBool [(T₁, listOf tvs.toArray n)] (freeF D a b ts)) := by
  unfold ClP
  k_fill
  intro rest dp un gd cn cs a₀ ccd cl outer A₀ base h₀ L m s Q E P B CD F X N O T hk hd hu hret
  walk_at "cl enterW"
  have rowsG := RowsIn.mono P (by assumption) (fun a ha q hq => by rw [List.mem_singleton] at hq; subst hq; exact off a ha)
  k_with_none
  k_with "m:cl enter" => (((refine wpAny_call ?_); k_dflt (refine' code_defV ?k1 ?k2 ?k3 ?k4 ?kO ?k5 ?kA ?kF ?kK ?k6 ?k7 ?k8 ?k9 ?kB ?_ ?c2 ?c3 ?c4 ?c5; (case kA => exact rfl); (case kF => exact rfl); (case kK => assumption); (case k1 => k_asm); (case k2 => k_asm); (case k3 => k_asm); (case k4 => k_asm); (case kO => k_asm); (case k5 => k_asm); (case k6 => k_is); (case k7 => k_is); (case k8 => ktr_room); (case k9 => first | exact BindsTo.of_eq rfl | exact binds_K (by k_in) rfl (by k_is) rfl rfl rfl | (refine' kp_binds ?kx ?ke; (case kx => k_in); (case ke => exact fun _ => rfl))); (case c5 => decide); (case kB => exact locs rfl); (case c2 => exact rfl); (case c3 => exact rfl); (case c4 => exact rfl); k_whole; intro g' L' h' FG' F' N' B' X' T' l1 lim'; (try k_lt l1); (try dsimp only); (try k_fold))))
  k_with "m:cl enterC" => (((refine wpAny_call ?_); k_dflt (refine' code_defCV ?k1 ?k2 ?k3 ?k4 ?kO ?k5 ?kA ?kF ?kK ?k6 ?k7 ?k8 ?k9 ?kB ?kD ?_ ?c2 ?c3 ?c4; (case kA => exact rfl); (case kF => exact rfl); (case kK => assumption); (case k1 => k_asm); (case k2 => k_asm); (case k3 => k_asm); (case k4 => k_asm); (case kO => k_asm); (case k5 => k_asm); (case k6 => k_is); (case k7 => k_is); (case k8 => ktr_room); (case k9 => first | exact BindsTo.of_eq rfl | exact binds_K (by k_in) rfl (by k_is) rfl rfl rfl | (refine' kp_binds ?kx ?ke; (case kx => k_in); (case ke => exact fun _ => rfl))); (case kB => exact rfl); (case kD => decide +kernel); (case c2 => exact rfl); (case c3 => exact rfl); (case c4 => exact rfl); k_whole; intro g' L' h' tk' cells' FG' F' N' Y' B' X' T' l1 lim'; (try k_lt l1); k_cells Y'; (try simp only [List.cons_append, List.nil_append] at N'); (try dsimp only); (try k_fold))))
  k_with "m:cl sub" => (first | exact fun _ h => h | exact List.forall_mem_nil _ | kcj_all)
  k_with "m:cl end" => ((refine' cl_end ?h ?N ?F ?N2 ?_ ?_; (case h => assumption); (case N => assumption); (case F => k_asm); (case N2 => k_asm); rotate_left))
  k_with "m:cl int" => ((refine' cl_end ?h ?N ?F ?N2 ?hn (r_int ?_); (case h => assumption); (case N => assumption); (case F => k_asm); (case N2 => k_asm); (case hn => walk_at "cl sub")))
  k_with "m:cl str" => ((refine' cl_end ?h ?N ?F ?N2 ?hn (r_str ?_); (case h => assumption); (case N => assumption); (case F => k_asm); (case N2 => k_asm); (case hn => walk_at "cl sub")))
  k_with "m:cl bool" => ((refine' cl_end ?h ?N ?F ?N2 ?hn (r_bool ?_); (case h => assumption); (case N => assumption); (case F => k_asm); (case N2 => k_asm); (case hn => walk_at "cl sub")))
  k_with "m:call builtin:list.append" => ((k_here; (with_reducible show wpAny _ _ (call (Value.builtin _) [Value.ref _, _]) _ _ _); k_dflt (refine' append_K ?k1 ?k2 ?k3 ?_ ?z; (case k1 => k_asm); (case k2 => k_asm); (case k3 => k_upd); (case z => exact Nat.le_of_ble_eq_true rfl); k_whole); intro h' F' N'; (try k_sweep)))
  k_with "m:call ref" => ((k_here; k_dflt (k_extra "call ref")))
  k_with "m:cl off1" => (first | exact List.forall_mem_nil _ | exact OwnOff.ne (by assumption) (by simp) | (refine List.forall_mem_cons.mpr ⟨?_, ?_⟩ <;> walk_at "cl off1") | k_ne)
  k_with "m:cl off" => ((unfold Off; walk_at "cl off1"))
  k_with "m:cl mem" => (first | exact List.forall_mem_nil _ | (refine List.forall_mem_cons.mpr ⟨by k_mem, ?_⟩; walk_at "cl mem") | (intro p9 h9; kst_mem))
  k_with "m:cl all" => (((try simp only [List.cons_append, List.nil_append, List.append_nil]); walk_at "cl mem"))
  k_with "m:execs cons" => ((k_here; (with_reducible refine tok_add ?_); intro tk; (try dsimp only); (try k_fold)))
  k_with "m:storeName" => ((k_here; first | ((with_reducible refine tok_sp ?_); intro t9) | ((with_reducible refine tok_st ?_); intro t9)))
  k_with "m:cl enterW" => (((refine wpAny_call ?_); k_dflt (refine' code_defW ?k1 ?k2 ?k3 ?k4 ?kO ?k5 ?kA ?kF ?kK ?k6 ?k7 ?k8 ?k9 ?kB ?_ ?c2 ?c3 ?c4 ?c5; (case kA => exact rfl); (case kF => exact rfl); (case kK => assumption); (case k1 => k_asm); (case k2 => k_asm); (case k3 => k_asm); (case k4 => k_asm); (case kO => k_asm); (case k5 => k_asm); (case k6 => k_is); (case k7 => k_is); (case k8 => ktr_room); (case k9 => first | exact BindsTo.of_eq rfl | exact binds_K (by k_in) rfl (by k_is) rfl rfl rfl); (case c5 => decide); (case kB => exact locs rfl); (case c2 => exact rfl); (case c3 => exact rfl); (case c4 => exact rfl); k_whole; intro g' L' h' kg' FG' F' N' B' X' T' l1 lim'; (try k_lt l1); (try dsimp only); (try k_fold))))
  k_with "m:subscriptTail Name Name ref int" => ((k_here; (with_reducible show wpAny _ _ (subscriptTail _ _ (Value.ref _) (Value.int _ _)) _ _ _); k_dflt (refine' row_sub ?r1 ?r2 ?r3 ?r4 ?_ ?r5; (case r1 => (k_extra "rows")); (case r2 => (k_extra "cell0")); (case r3 => (k_extra "rowl")); (case r4 => (k_extra "rowl")); (case r5 => with_unfolding_all rfl); k_whole); intro a8 vs8 hl8 hi8))
  k_with "m:subscriptTail" => ((k_here; (with_reducible show wpAny _ _ (subscriptTail _ _ (Value.ref _) (Value.int _ _)) _ _ _); k_dflt (refine' cell_sub ?r1 ?r2 ?r3 ?r4 ?r6 ?_ ?r5; (case r1 => with_reducible assumption); (case r2 => with_reducible assumption); (case r3 => (k_extra "cell0")); (case r4 => (k_extra "celll")); (case r6 => (k_extra "celll")); (case r5 => with_unfolding_all rfl); k_whole); intro t8))
  k_with "cell0" => (have q9 := hts _ kMem; omega)
  k_with "rows" => (exact RowsIn.keep rowsG (Fr.keep (by k_asm)))
  k_with "rowl" => (have q9 := hts _ kMem; first | exact hD.b | exact hD.a (by omega))
  k_with "celll" => (have q9 := hts _ kMem; first | exact hD.d (by omega) | exact hD.c (by omega) (by omega))
  k_with "pyIter ref" => (k_search (fun pre => FInv D a b pre))
  k_with "state" => (first | exact fi_0 | exact fi_t (by assumption) (by assumption))
  k_steps
  · refine' cl_end hret N (by k_asm) (by k_asm) ?hn1 ⟨rfl, ?e1⟩
    case hn1 => walk_at "cl mem"
    case e1 => rw [fi_f kMem (by assumption)]
  · refine' cl_end hret N (by k_asm) (by k_asm) ?hn2 ⟨rfl, ?e2⟩
    case hn2 => walk_at "cl mem"
    case e2 => rw [kInv.e]

end
section
theorem rows_a34 : True := by
  k_with_none
  k_with "m:cl enter" => (((refine wpAny_call ?_); k_dflt (refine' code_defV ?k1 ?k2 ?k3 ?k4 ?kO ?k5 ?kA ?kF ?kK ?k6 ?k7 ?k8 ?k9 ?kB ?_ ?c2 ?c3 ?c4 ?c5; (case kA => exact rfl); (case kF => exact rfl); (case kK => assumption); (case k1 => k_asm); (case k2 => k_asm); (case k3 => k_asm); (case k4 => k_asm); (case kO => k_asm); (case k5 => k_asm); (case k6 => k_is); (case k7 => k_is); (case k8 => ktr_room); (case k9 => first | exact BindsTo.of_eq rfl | exact binds_K (by k_in) rfl (by k_is) rfl rfl rfl | (refine' kp_binds ?kx ?ke; (case kx => k_in); (case ke => exact fun _ => rfl))); (case c5 => decide); (case kB => exact locs rfl); (case c2 => exact rfl); (case c3 => exact rfl); (case c4 => exact rfl); k_whole; intro g' L' h' FG' F' N' B' X' T' l1 lim'; (try k_lt l1); (try dsimp only); (try k_fold))))
  k_with "m:cl enterC" => (((refine wpAny_call ?_); k_dflt (refine' code_defCV ?k1 ?k2 ?k3 ?k4 ?kO ?k5 ?kA ?kF ?kK ?k6 ?k7 ?k8 ?k9 ?kB ?kD ?_ ?c2 ?c3 ?c4; (case kA => exact rfl); (case kF => exact rfl); (case kK => assumption); (case k1 => k_asm); (case k2 => k_asm); (case k3 => k_asm); (case k4 => k_asm); (case kO => k_asm); (case k5 => k_asm); (case k6 => k_is); (case k7 => k_is); (case k8 => ktr_room); (case k9 => first | exact BindsTo.of_eq rfl | exact binds_K (by k_in) rfl (by k_is) rfl rfl rfl | (refine' kp_binds ?kx ?ke; (case kx => k_in); (case ke => exact fun _ => rfl))); (case kB => exact rfl); (case kD => decide +kernel); (case c2 => exact rfl); (case c3 => exact rfl); (case c4 => exact rfl); k_whole; intro g' L' h' tk' cells' FG' F' N' Y' B' X' T' l1 lim'; (try k_lt l1); k_cells Y'; (try simp only [List.cons_append, List.nil_append] at N'); (try dsimp only); (try k_fold))))
  k_with "m:cl sub" => (first | exact fun _ h => h | exact List.forall_mem_nil _ | kcj_all)
  k_with "m:cl end" => ((refine' cl_end ?h ?N ?F ?N2 ?_ ?_; (case h => assumption); (case N => assumption); (case F => k_asm); (case N2 => k_asm); rotate_left))
  k_with "m:cl int" => ((refine' cl_end ?h ?N ?F ?N2 ?hn (r_int ?_); (case h => assumption); (case N => assumption); (case F => k_asm); (case N2 => k_asm); (case hn => walk_at "cl sub")))
  k_with "m:cl str" => ((refine' cl_end ?h ?N ?F ?N2 ?hn (r_str ?_); (case h => assumption); (case N => assumption); (case F => k_asm); (case N2 => k_asm); (case hn => walk_at "cl sub")))
  k_with "m:cl bool" => ((refine' cl_end ?h ?N ?F ?N2 ?hn (r_bool ?_); (case h => assumption); (case N => assumption); (case F => k_asm); (case N2 => k_asm); (case hn => walk_at "cl sub")))
  k_with "m:call builtin:list.append" => ((k_here; (with_reducible show wpAny _ _ (call (Value.builtin _) [Value.ref _, _]) _ _ _); k_dflt (refine' append_K ?k1 ?k2 ?k3 ?_ ?z; (case k1 => k_asm); (case k2 => k_asm); (case k3 => k_upd); (case z => exact Nat.le_of_ble_eq_true rfl); k_whole); intro h' F' N'; (try k_sweep)))
  k_with "m:call ref" => ((k_here; k_dflt (k_extra "call ref")))
  k_with "m:cl off1" => (first | exact List.forall_mem_nil _ | exact OwnOff.ne (by assumption) (by simp) | (refine List.forall_mem_cons.mpr ⟨?_, ?_⟩ <;> walk_at "cl off1") | k_ne)
  k_with "m:cl off" => ((unfold Off; walk_at "cl off1"))
  k_with "m:cl mem" => (first | exact List.forall_mem_nil _ | (refine List.forall_mem_cons.mpr ⟨by k_mem, ?_⟩; walk_at "cl mem") | (intro p9 h9; kst_mem))
  k_with "m:cl all" => (((try simp only [List.cons_append, List.nil_append, List.append_nil]); walk_at "cl mem"))
  k_with "m:execs cons" => ((k_here; (with_reducible refine tok_add ?_); intro tk; (try dsimp only); (try k_fold)))
  k_with "m:storeName" => ((k_here; first | ((with_reducible refine tok_sp ?_); intro t9) | ((with_reducible refine tok_st ?_); intro t9)))
  trivial
theorem cl_useP {Pre : Heap → Prop} {f : Addr} {dd du : Nat} {vs : List Value} {vis : List (Addr × Obj)} {Ret : Addr → Value → List (Addr × Obj) → Prop}
    {rest all : List (Addr × Obj)} {dp un : Nat} {gd : Option (List Code)} {cn : Str} {cs : Scope} {a : Addr} {ccd : Value} {cl : List (Str × Addr)} {outer : List Env} {A₀ : Around} {base h₀ : Heap} {L : Addr} {m : Str → Option Value} {s : Shared} {Q E : Value → Shared → Prop}
    (C : ClP w p loose mean mg mb Pre f dd du vs vis Ret) (P : Pre s.heap)
    (B : Below A₀ base outer h₀) (CD : Cds base) (F : Fr h₀ L s.heap m) (X : (hd.heap_39 w.params).In h₀) (N : News h₀ L s.heap all) (ha : ∀ q ∈ vis ++ rest, q ∈ all) (O : Off vis rest) (T : Top p loose mean mg mb h₀) (hk : cs.kind = .function)
    (hd : dp + dd < recursionLimit) (hu : un + du < cLine)
    (ret : ∀ lim v vis' h' tk', (∀ q ∈ all, q.1 < lim) → Ret lim v vis' → Fr h₀ L h' m → News h₀ L h' (vis' ++ rest) → Q v { s with heap := h', toks := tk' }) :
    wpAny (model PySem.Challenge.rw_sn0086_01.row.prog w) (ktrTop dp un gd cn cs L a ccd cl outer) (call (.ref f) vs) Q E s :=
  C rest dp un gd cn cs a ccd cl outer A₀ base h₀ L m s Q E P B CD F X (fun q hq => N q (ha q hq)) O T hk hd hu (ret _ · · · · fun q hq => Heap.lt_size (N q hq).1)
theorem range_hide {M : Model} {A : Around} {Q E : Value → Shared → Prop} {s : Shared} {t : Tok} (h : ∀ n : Int, Hid (n = 8) → 0 ≤ n ∧ n ≤ 1000 → wpAny M A (call (.type "range") [.int n t]) Q E s) : wpAny M A (call (.type "range") [.int 8 t]) Q E s := h 8 rfl (by decide)
/-- the farthest word of each is one alone -/
structure Far (D : List (List Int)) : Prop extends Sq D where
  m : ∀ k : Nat, k < 8 → (D.getD k []).idxOf 3 = 7 - k
  i : ∀ k : Nat, k < 8 → 3 ∈ D.getD k []
  x : ∀ k : Nat, k < 8 → ∀ a ∈ D.getD k [], a ≤ 3
  y : ∀ k : Nat, k < 8 → PyData.layable0 (.list ((D.getD k []).map .int)) = true
section
variable {prog : Program} {w : World} {A : Around} {s : Shared} {value slice : PySem.Expr} {R : Addr} {rs : List Addr} {D : List (List Int)} {k : Int} {u : Tok} {E : Value → Shared → Prop} {h₀ : Heap} {L : Addr} {m : Str → Option Value} {news : List (Addr × Obj)}
theorem row_sub2 {Q : Value → Shared → Prop} (i : RowsIn s.heap R rs D) (h0 : 0 ≤ k) (h1 : k < D.length) (hb : D.length ≤ 100) (h : Q (.ref (rs.getD k.toNat 0)) s)
    (hs : subscripted slice false (.ref R) (.int k u) = operate [.ref R, .int k u] (getItem (.ref R) (.int k u))) :
    wpAny (model prog w) A (subscriptTail value slice (.ref R) (.int k u)) Q E s := by
  obtain ⟨n, e⟩ := i.o
  have hl : s.heap.IsList R (rs.map Value.ref).toArray := ⟨_, e, rfl, n, rfl⟩
  have l := i.l
  refine tail_any hl.typeIs slot_list_getitem.lookup (wpAny_getItem_list (x := .ref (rs.getD k.toNat 0)) hl h0 (by omega) ?_ h) hs
  simp [List.getD_eq_getElem?_getD, List.getElem?_eq_getElem (show k.toNat < rs.length by omega)]
theorem row_getm {pl : Sem Bool} {Q : Value × List Value → Shared → Prop} (i : RowsIn s.heap R rs D) (f : Far D) (h0 : 0 ≤ k ∧ k < 8)
    (h : Q (.builtin "list.index", [.ref (rs.getD k.toNat 0)]) s) : wpAny (model prog w) A (getMethod (.ref (rs.getD k.toNat 0)) "index" pl) Q E s := by
  obtain ⟨vs, n, e, q⟩ := i.r k.toNat (by rw [f.l]; omega)
  exact getMethod_list_of PySem.F.slot_list_index PySem.F.type_list_index ⟨_, e, rfl, n, rfl⟩ ⟨_, e, rfl⟩ h
theorem row_max {Q : Value → Shared → Prop} (i : RowsIn s.heap R rs D) (f : Far D) (h0 : 0 ≤ k ∧ k < 8) (F : Fr h₀ L s.heap m) (N : News h₀ L s.heap news) (hh : A.handled = none)
    (h : ∀ h' (t : Tok) tk, Fr h₀ L h' m → News h₀ L h' news → Q (.int 3 t) { s with heap := h', toks := tk }) : wpAny (model prog w) A (call (.builtin "max") [.ref (rs.getD k.toNat 0)]) Q E s := by
  obtain ⟨vs, n, e, q⟩ := i.r k.toNat (by rw [f.l]; omega)
  refine max_list_N hh F N ⟨_, e, rfl, n, rfl⟩ q (by rw [f.r _ (by omega)]; decide) fun h' M t tk F' N' a b => ?_
  have e3 : M = 3 := by
    have := b 3 (f.i _ (by omega)); have := f.x _ (by omega) _ a; omega
  subst e3
  exact h h' t tk F' N'
theorem row_index {Q : Value → Shared → Prop} (i : RowsIn s.heap R rs D) (f : Far D) (h0 : 0 ≤ k ∧ k < 8)
    (h : Q (.int (7 - k) s.toks) { s with toks := s.toks + 1 }) : wpAny (model prog w) A (call (.builtin "list.index") [.ref (rs.getD k.toNat 0), .int 3 u]) Q E s := by
  obtain ⟨vs, n, e, q⟩ := i.r k.toNat (by rw [f.l]; omega)
  refine index_list_ints ⟨_, e, rfl, n, rfl⟩ q (f.y _ (by omega)) (f.i _ (by omega)) ?_
  rw [f.m _ (by omega)]
  have e9 : ((7 - k.toNat : Nat) : Int) = 7 - k := by omega
  rw [e9]; exact h
end
/-- won by that end -/
noncomputable def wonE (D : List (List Int)) (a : Int) (ts us : List Int) (e : Int) : Bool := freeF D a e ts && freeF D a (7 - e) us
noncomputable def wonF (D : List (List Int)) (a : Int) (ts us : List Int) (es : List Int) : Bool := es.any (wonE D a ts us)
structure WInv (D : List (List Int)) (a : Int) (ts us : List Int) (pre : List Int) : Prop where
  e : wonF D a ts us pre = false
theorem wi_0 {D : List (List Int)} {a : Int} {ts us : List Int} : WInv D a ts us [] := ⟨rfl⟩
theorem wi_1 {D : List (List Int)} {a t : Int} {ts us pre : List Int} (i : WInv D a ts us pre) (h : freeF D a t ts = false) : WInv D a ts us (pre ++ [t]) := ⟨by
  have e := i.e
  unfold wonF at e ⊢
  rw [List.any_append, e, List.any_cons, List.any_nil]; unfold wonE; rw [h]; rfl⟩
theorem wi_2 {D : List (List Int)} {a t : Int} {ts us pre : List Int} (i : WInv D a ts us pre) (h : freeF D a (7 - t) us = false) : WInv D a ts us (pre ++ [t]) := ⟨by
  have e := i.e
  unfold wonF at e ⊢
  rw [List.any_append, e, List.any_cons, List.any_nil]; unfold wonE; rw [h, Bool.and_false]; rfl⟩
theorem wi_f {D : List (List Int)} {a t : Int} {ts us es : List Int} (hm : t ∈ es) (h : freeF D a t ts = true) (h2 : freeF D a (7 - t) us = true) : wonF D a ts us es = true := by
  unfold wonF wonE
  rw [List.any_eq_true]
  exact ⟨t, hm, by rw [h, h2]; rfl⟩
theorem rows_a35 : True := by
  k_with_none
  k_with "m:cl enter" => (((refine wpAny_call ?_); k_dflt (refine' code_defV ?k1 ?k2 ?k3 ?k4 ?kO ?k5 ?kA ?kF ?kK ?k6 ?k7 ?k8 ?k9 ?kB ?_ ?c2 ?c3 ?c4 ?c5; (case kA => exact rfl); (case kF => exact rfl); (case kK => assumption); (case k1 => k_asm); (case k2 => k_asm); (case k3 => k_asm); (case k4 => k_asm); (case kO => k_asm); (case k5 => k_asm); (case k6 => k_is); (case k7 => k_is); (case k8 => ktr_room); (case k9 => first | exact BindsTo.of_eq rfl | exact binds_K (by k_in) rfl (by k_is) rfl rfl rfl | (refine' kp_binds ?kx ?ke; (case kx => k_in); (case ke => exact fun _ => rfl))); (case c5 => decide); (case kB => exact locs rfl); (case c2 => exact rfl); (case c3 => exact rfl); (case c4 => exact rfl); k_whole; intro g' L' h' FG' F' N' B' X' T' l1 lim'; (try k_lt l1); (try dsimp only); (try k_fold))))
  k_with "m:cl enterC" => (((refine wpAny_call ?_); k_dflt (refine' code_defCV ?k1 ?k2 ?k3 ?k4 ?kO ?k5 ?kA ?kF ?kK ?k6 ?k7 ?k8 ?k9 ?kB ?kD ?_ ?c2 ?c3 ?c4; (case kA => exact rfl); (case kF => exact rfl); (case kK => assumption); (case k1 => k_asm); (case k2 => k_asm); (case k3 => k_asm); (case k4 => k_asm); (case kO => k_asm); (case k5 => k_asm); (case k6 => k_is); (case k7 => k_is); (case k8 => ktr_room); (case k9 => first | exact BindsTo.of_eq rfl | exact binds_K (by k_in) rfl (by k_is) rfl rfl rfl | (refine' kp_binds ?kx ?ke; (case kx => k_in); (case ke => exact fun _ => rfl))); (case kB => exact rfl); (case kD => decide +kernel); (case c2 => exact rfl); (case c3 => exact rfl); (case c4 => exact rfl); k_whole; intro g' L' h' tk' cells' FG' F' N' Y' B' X' T' l1 lim'; (try k_lt l1); k_cells Y'; (try simp only [List.cons_append, List.nil_append] at N'); (try dsimp only); (try k_fold))))
  k_with "m:cl sub" => (first | exact fun _ h => h | exact List.forall_mem_nil _ | kcj_all)
  k_with "m:cl end" => ((refine' cl_end ?h ?N ?F ?N2 ?_ ?_; (case h => assumption); (case N => assumption); (case F => k_asm); (case N2 => k_asm); rotate_left))
  k_with "m:cl int" => ((refine' cl_end ?h ?N ?F ?N2 ?hn (r_int ?_); (case h => assumption); (case N => assumption); (case F => k_asm); (case N2 => k_asm); (case hn => walk_at "cl sub")))
  k_with "m:cl str" => ((refine' cl_end ?h ?N ?F ?N2 ?hn (r_str ?_); (case h => assumption); (case N => assumption); (case F => k_asm); (case N2 => k_asm); (case hn => walk_at "cl sub")))
  k_with "m:cl bool" => ((refine' cl_end ?h ?N ?F ?N2 ?hn (r_bool ?_); (case h => assumption); (case N => assumption); (case F => k_asm); (case N2 => k_asm); (case hn => walk_at "cl sub")))
  k_with "m:call builtin:list.append" => ((k_here; (with_reducible show wpAny _ _ (call (Value.builtin _) [Value.ref _, _]) _ _ _); k_dflt (refine' append_K ?k1 ?k2 ?k3 ?_ ?z; (case k1 => k_asm); (case k2 => k_asm); (case k3 => k_upd); (case z => exact Nat.le_of_ble_eq_true rfl); k_whole); intro h' F' N'; (try k_sweep)))
  k_with "m:call ref" => ((k_here; k_dflt (k_extra "call ref")))
  k_with "m:cl off1" => (first | exact List.forall_mem_nil _ | exact OwnOff.ne (by assumption) (by simp) | (refine List.forall_mem_cons.mpr ⟨?_, ?_⟩ <;> walk_at "cl off1") | k_ne)
  k_with "m:cl off" => ((unfold Off; walk_at "cl off1"))
  k_with "m:cl mem" => (first | exact List.forall_mem_nil _ | (refine List.forall_mem_cons.mpr ⟨by k_mem, ?_⟩; walk_at "cl mem") | (intro p9 h9; kst_mem))
  k_with "m:cl all" => (((try simp only [List.cons_append, List.nil_append, List.append_nil]); walk_at "cl mem"))
  k_with "m:execs cons" => ((k_here; (with_reducible refine tok_add ?_); intro tk; (try dsimp only); (try k_fold)))
  k_with "m:storeName" => ((k_here; first | ((with_reducible refine tok_sp ?_); intro t9) | ((with_reducible refine tok_st ?_); intro t9)))
  k_with "m:call type:range" => ((k_here; k_extra "range"))
  k_with "m:cl enterW" => (((refine wpAny_call ?_); k_dflt (refine' code_defW ?k1 ?k2 ?k3 ?k4 ?kO ?k5 ?kA ?kF ?kK ?k6 ?k7 ?k8 ?k9 ?kB ?_ ?c2 ?c3 ?c4 ?c5; (case kA => exact rfl); (case kF => exact rfl); (case kK => assumption); (case k1 => k_asm); (case k2 => k_asm); (case k3 => k_asm); (case k4 => k_asm); (case kO => k_asm); (case k5 => k_asm); (case k6 => k_is); (case k7 => k_is); (case k8 => ktr_room); (case k9 => first | exact BindsTo.of_eq rfl | exact binds_K (by k_in) rfl (by k_is) rfl rfl rfl); (case c5 => decide); (case kB => exact locs rfl); (case c2 => exact rfl); (case c3 => exact rfl); (case c4 => exact rfl); k_whole; intro g' L' h' kg' FG' F' N' B' X' T' l1 lim'; (try k_lt l1); (try dsimp only); (try k_fold))))
  k_with "m:subscriptTail Name Name ref int" => ((k_here; (with_reducible show wpAny _ _ (subscriptTail _ _ (Value.ref _) (Value.int _ _)) _ _ _); k_dflt (refine' row_sub2 ?r1 ?r2 ?r3 ?r4 ?_ ?r5; (case r1 => (k_extra "rows")); (case r2 => (k_extra "brng1")); (case r3 => (k_extra "rowl")); (case r4 => (k_extra "rowl")); (case r5 => with_unfolding_all rfl); k_whole)))
  k_with "m:getMethod ref" => ((k_here; (with_reducible show wpAny _ _ (getMethod (Value.ref _) (PySem.Str.ofString "index") _) _ _ _); k_dflt (refine' row_getm ?r1 ?rF ?r2 ?_; (case r1 => (k_extra "rows")); (case rF => (k_extra "far")); (case r2 => (k_extra "brng")); k_whole)))
  k_with "m:call builtin:max" => ((k_here; (with_reducible show wpAny _ _ (call (Value.builtin _) [Value.ref _]) _ _ _); k_dflt (refine' row_max ?r1 ?rF ?r2 ?r3 ?r4 ?r5 ?_; (case r1 => (k_extra "rows")); (case rF => (k_extra "far")); (case r2 => (k_extra "brng")); (case r3 => k_asm); (case r4 => k_asm); (case r5 => with_unfolding_all rfl); k_whole); intro h' t' k' F' N'))
  k_with "m:call builtin:list.index" => ((k_here; (with_reducible show wpAny _ _ (call (Value.builtin _) [Value.ref _, Value.int _ _]) _ _ _); k_dflt (refine' row_index ?r1 ?rF ?r2 ?_; (case r1 => (k_extra "rows")); (case rF => (k_extra "far")); (case r2 => (k_extra "brng")); k_whole)))
  trivial
set_option maxHeartbeats 1000000 in
theorem won_cl (R T₁ T₂ : Addr) (rs : List Addr) (D : List (List Int)) (hF : Far D) (a : Int) (ta : Tok) (tvs uvs : List Value) (ts us : List Int) (n n2 : Nat) (ht : IntsAre tvs ts) (ht8 : ts.length ≤ 8) (hts : ∀ t ∈ ts, 0 ≤ t ∧ t < 8) (hu' : IntsAre uvs us) (hu8 : us.length ≤ 8) (hus : ∀ t ∈ us, 0 ≤ t ∧ t < 8) (ha : 0 ≤ a ∧ a < 8) (off : ∀ r ∈ R :: rs, @Ne Nat r T₁ ∧ @Ne Nat r T₂) (h12 : @Ne Nat T₁ T₂) :
    ClP w p loose mean mg mb (fun h => RowsIn h R rs D) 302 20 160 [.ref R, .int a ta, .ref T₁, .ref T₂] [(T₁, listOf tvs.toArray n), (T₂, listOf uvs.toArray n2)] (RBool [(T₁, listOf tvs.toArray n), (T₂, listOf uvs.toArray n2)] (wonF D a ts us (rangeKs 0 8))) := by
  unfold ClP
  k_fill
  intro rest dp un gd cn cs a₀ ccd cl outer A₀ base h₀ L m s Q E P B CD F X N O T hk hd hu hret
  walk_at "cl enterW"
  have rowsG := RowsIn.mono P (by assumption) (fun a ha q hq => by
    rcases List.mem_cons.mp hq with rfl | hq
    · exact (off a ha).1
    · rw [List.mem_singleton] at hq; subst hq; exact (off a ha).2)
  have hD := hF.toSq
  k_with_none
  k_with "m:cl enter" => (((refine wpAny_call ?_); k_dflt (refine' code_defV ?k1 ?k2 ?k3 ?k4 ?kO ?k5 ?kA ?kF ?kK ?k6 ?k7 ?k8 ?k9 ?kB ?_ ?c2 ?c3 ?c4 ?c5; (case kA => exact rfl); (case kF => exact rfl); (case kK => assumption); (case k1 => k_asm); (case k2 => k_asm); (case k3 => k_asm); (case k4 => k_asm); (case kO => k_asm); (case k5 => k_asm); (case k6 => k_is); (case k7 => k_is); (case k8 => ktr_room); (case k9 => first | exact BindsTo.of_eq rfl | exact binds_K (by k_in) rfl (by k_is) rfl rfl rfl | (refine' kp_binds ?kx ?ke; (case kx => k_in); (case ke => exact fun _ => rfl))); (case c5 => decide); (case kB => exact locs rfl); (case c2 => exact rfl); (case c3 => exact rfl); (case c4 => exact rfl); k_whole; intro g' L' h' FG' F' N' B' X' T' l1 lim'; (try k_lt l1); (try dsimp only); (try k_fold))))
  k_with "m:cl enterC" => (((refine wpAny_call ?_); k_dflt (refine' code_defCV ?k1 ?k2 ?k3 ?k4 ?kO ?k5 ?kA ?kF ?kK ?k6 ?k7 ?k8 ?k9 ?kB ?kD ?_ ?c2 ?c3 ?c4; (case kA => exact rfl); (case kF => exact rfl); (case kK => assumption); (case k1 => k_asm); (case k2 => k_asm); (case k3 => k_asm); (case k4 => k_asm); (case kO => k_asm); (case k5 => k_asm); (case k6 => k_is); (case k7 => k_is); (case k8 => ktr_room); (case k9 => first | exact BindsTo.of_eq rfl | exact binds_K (by k_in) rfl (by k_is) rfl rfl rfl | (refine' kp_binds ?kx ?ke; (case kx => k_in); (case ke => exact fun _ => rfl))); (case kB => exact rfl); (case kD => decide +kernel); (case c2 => exact rfl); (case c3 => exact rfl); (case c4 => exact rfl); k_whole; intro g' L' h' tk' cells' FG' F' N' Y' B' X' T' l1 lim'; (try k_lt l1); k_cells Y'; (try simp only [List.cons_append, List.nil_append] at N'); (try dsimp only); (try k_fold))))
  k_with "m:cl sub" => (first | exact fun _ h => h | exact List.forall_mem_nil _ | kcj_all)
  k_with "m:cl end" => ((refine' cl_end ?h ?N ?F ?N2 ?_ ?_; (case h => assumption); (case N => assumption); (case F => k_asm); (case N2 => k_asm); rotate_left))
  k_with "m:cl int" => ((refine' cl_end ?h ?N ?F ?N2 ?hn (r_int ?_); (case h => assumption); (case N => assumption); (case F => k_asm); (case N2 => k_asm); (case hn => walk_at "cl sub")))
  k_with "m:cl str" => ((refine' cl_end ?h ?N ?F ?N2 ?hn (r_str ?_); (case h => assumption); (case N => assumption); (case F => k_asm); (case N2 => k_asm); (case hn => walk_at "cl sub")))
  k_with "m:cl bool" => ((refine' cl_end ?h ?N ?F ?N2 ?hn (r_bool ?_); (case h => assumption); (case N => assumption); (case F => k_asm); (case N2 => k_asm); (case hn => walk_at "cl sub")))
  k_with "m:call builtin:list.append" => ((k_here; (with_reducible show wpAny _ _ (call (Value.builtin _) [Value.ref _, _]) _ _ _); k_dflt (refine' append_K ?k1 ?k2 ?k3 ?_ ?z; (case k1 => k_asm); (case k2 => k_asm); (case k3 => k_upd); (case z => exact Nat.le_of_ble_eq_true rfl); k_whole); intro h' F' N'; (try k_sweep)))
  k_with "m:call ref" => ((k_here; k_dflt (k_extra "call ref")))
  k_with "m:cl off1" => (first | exact List.forall_mem_nil _ | exact OwnOff.ne (by assumption) (by simp) | (refine List.forall_mem_cons.mpr ⟨?_, ?_⟩ <;> walk_at "cl off1") | k_ne)
  k_with "m:cl off" => ((unfold Off; walk_at "cl off1"))
  k_with "m:cl mem" => (first | exact List.forall_mem_nil _ | (refine List.forall_mem_cons.mpr ⟨by k_mem, ?_⟩; walk_at "cl mem") | (intro p9 h9; kst_mem))
  k_with "m:cl all" => (((try simp only [List.cons_append, List.nil_append, List.append_nil]); walk_at "cl mem"))
  k_with "m:execs cons" => ((k_here; (with_reducible refine tok_add ?_); intro tk; (try dsimp only); (try k_fold)))
  k_with "m:storeName" => ((k_here; first | ((with_reducible refine tok_sp ?_); intro t9) | ((with_reducible refine tok_st ?_); intro t9)))
  k_with "m:call type:range" => ((k_here; k_extra "range"))
  k_with "m:cl enterW" => (((refine wpAny_call ?_); k_dflt (refine' code_defW ?k1 ?k2 ?k3 ?k4 ?kO ?k5 ?kA ?kF ?kK ?k6 ?k7 ?k8 ?k9 ?kB ?_ ?c2 ?c3 ?c4 ?c5; (case kA => exact rfl); (case kF => exact rfl); (case kK => assumption); (case k1 => k_asm); (case k2 => k_asm); (case k3 => k_asm); (case k4 => k_asm); (case kO => k_asm); (case k5 => k_asm); (case k6 => k_is); (case k7 => k_is); (case k8 => ktr_room); (case k9 => first | exact BindsTo.of_eq rfl | exact binds_K (by k_in) rfl (by k_is) rfl rfl rfl); (case c5 => decide); (case kB => exact locs rfl); (case c2 => exact rfl); (case c3 => exact rfl); (case c4 => exact rfl); k_whole; intro g' L' h' kg' FG' F' N' B' X' T' l1 lim'; (try k_lt l1); (try dsimp only); (try k_fold))))
  k_with "m:subscriptTail Name Name ref int" => ((k_here; (with_reducible show wpAny _ _ (subscriptTail _ _ (Value.ref _) (Value.int _ _)) _ _ _); k_dflt (refine' row_sub2 ?r1 ?r2 ?r3 ?r4 ?_ ?r5; (case r1 => (k_extra "rows")); (case r2 => (k_extra "brng1")); (case r3 => (k_extra "rowl")); (case r4 => (k_extra "rowl")); (case r5 => with_unfolding_all rfl); k_whole)))
  k_with "m:getMethod ref" => ((k_here; (with_reducible show wpAny _ _ (getMethod (Value.ref _) (PySem.Str.ofString "index") _) _ _ _); k_dflt (refine' row_getm ?r1 ?rF ?r2 ?_; (case r1 => (k_extra "rows")); (case rF => (k_extra "far")); (case r2 => (k_extra "brng")); k_whole)))
  k_with "m:call builtin:max" => ((k_here; (with_reducible show wpAny _ _ (call (Value.builtin _) [Value.ref _]) _ _ _); k_dflt (refine' row_max ?r1 ?rF ?r2 ?r3 ?r4 ?r5 ?_; (case r1 => (k_extra "rows")); (case rF => (k_extra "far")); (case r2 => (k_extra "brng")); (case r3 => k_asm); (case r4 => k_asm); (case r5 => with_unfolding_all rfl); k_whole); intro h' t' k' F' N'))
  k_with "m:call builtin:list.index" => ((k_here; (with_reducible show wpAny _ _ (call (Value.builtin _) [Value.ref _, Value.int _ _]) _ _ _); k_dflt (refine' row_index ?r1 ?rF ?r2 ?_; (case r1 => (k_extra "rows")); (case rF => (k_extra "far")); (case r2 => (k_extra "brng")); k_whole)))
  k_with "rows" => (exact RowsIn.keep rowsG (Fr.keep (by k_asm)))
  k_with "far" => (exact hF)
  k_with "rowl" => ((have hN9 : kN < 8 := by (have hN8 : n8 = 8 := hn8; omega)); first | exact hD.b | exact hD.a (by omega))
  k_with "call ref" => ((have hN9 : kN < 8 := by (have hN8 : n8 = 8 := hn8; omega)); refine' cl_useP (rest := [(T₂, listOf uvs.toArray n2)] ++ kOwn) (free_cl R T₁ rs D hD a _ _ _ tvs ts n ht ht8 hts ha ?hb (fun r hr => (off r hr).1)) ?hP ?k1 ?kC ?k2 ?k3 ?k4 ?ha ?kO ?k5 ?kK ?kd ?ku ?_; (case hb => (k_extra "brng")); (case hP => exact RowsIn.keep rowsG (Fr.keep (by k_asm))); (case k1 => k_asm); (case kC => assumption); (case k2 => k_asm); (case k3 => k_asm); (case k4 => k_asm); (case ha => walk_at "cl all"); (case kO => walk_at "cl off"); (case k5 => k_asm); (case kK => first | exact rfl | assumption); (case kd => ktr_room); (case ku => ktr_units); intro lim9 v9 n9 h9 tk9 lt9 R9 F9 N9; (obtain ⟨e9', e9⟩ := R9); subst e9; subst e9'; (try simp only [List.cons_append, List.nil_append] at N9); (try dsimp only); (try k_fold))
  k_with "call ref" => ((have hN9 : kN < 8 := by (have hN8 : n8 = 8 := hn8; omega)); refine' cl_useP (rest := [(T₁, listOf tvs.toArray n)] ++ kOwn) (free_cl R T₂ rs D hD a _ _ _ uvs us n2 hu' hu8 hus ha ?hb (fun r hr => (off r hr).2)) ?hP ?k1 ?kC ?k2 ?k3 ?k4 ?ha ?kO ?k5 ?kK ?kd ?ku ?_; (case hb => (k_extra "brng")); (case hP => exact RowsIn.keep rowsG (Fr.keep (by k_asm))); (case k1 => k_asm); (case kC => assumption); (case k2 => k_asm); (case k3 => k_asm); (case k4 => k_asm); (case ha => walk_at "cl all"); (case kO => walk_at "cl off"); (case k5 => k_asm); (case kK => first | exact rfl | assumption); (case kd => ktr_room); (case ku => ktr_units); intro lim9 v9 n9 h9 tk9 lt9 R9 F9 N9; (obtain ⟨e9', e9⟩ := R9); subst e9; subst e9'; (try simp only [List.cons_append, List.nil_append] at N9); (try dsimp only); (try k_fold))
  k_with "range" => ((with_reducible refine range_hide ?_); intro n8 hn8 hn8b)
  k_with "brng" => ((have hN8 : n8 = 8 := hn8); omega)
  k_with "brng1" => ((have hN8 : n8 = 8 := hn8); omega)
  k_with "state" => (first | exact wi_0 | exact wi_1 (by assumption) (by assumption) | exact wi_2 (by assumption) (by assumption))
  k_with "pyIter ref" => ((k_search (fun pre => WInv D a ts us pre)))
  k_steps
  · have hn9 : n8 = 8 := hn8
    subst hn9
    refine' cl_end hret N (by k_asm) (by k_asm) ?hn1 ⟨rfl, ?e1⟩
    case hn1 => walk_at "cl mem"
    case e1 => rw [wi_f (kre_mem (v := kN) (by omega) (by omega)) (by assumption) (by assumption)]
  · have hn9 : n8 = 8 := hn8
    subst hn9
    refine' cl_end hret N (by k_asm) (by k_asm) ?hn2 ⟨rfl, ?e2⟩
    case hn2 => walk_at "cl mem"
    case e2 => exact congrArg _ kInv.e.symm

end
section
section
open Builtin
theorem pat_attrs : PlainAttrs "re.Pattern" :=
  ⟨⟨"object.__getattribute__", by rw [typeLookup_type, builtinLookup_eq_fast]; kernel_rfl, by decide +kernel⟩, by rw [typeLookup_type, builtinLookup_eq_fast]; kernel_rfl⟩
theorem pat_slot : Slot "re.Pattern" "search" "re.Pattern.search" :=
  .of (owner := "re.Pattern") (n := "search") (by rw [typeLookup_type, builtinLookup_eq_fast]; kernel_rfl) (by decide +kernel) (by decide +kernel) (by decide +kernel)
    (by first | exact .inl (by decide +kernel) | exact .inr (by decide +kernel)) (by rw [isSubtype_type]; kernel_rfl)
theorem pat_type : typeOf (.builtin "re.Pattern.search") = pure (.type "method_descriptor") := by show builtinType _ = _; rw [builtinType_eq_fast]; kernel_rfl
theorem pat_entry : entryFor table "re.Pattern.search" = some Builtin.«re.Pattern.search» := entryFor_of_tree (by kernel_rfl)
theorem pat_owner : Manifest.owners.lookup (String.ofList ['n', 'r', 'e', 't', 't', 'a', 'P', '.', 'e', 'r'].reverse) = some Manifest.sig_re_Pattern := by kernel_rfl
theorem pat_args (a b : Value) : argsOk "re.Pattern.search" ⟨[a, b], []⟩ := by
  unfold argsOk; rw [signature?_of (id := "re.Pattern.search") (n := ['h', 'c', 'r', 'a', 'e', 's']) (o := ['n', 'r', 'e', 't', 't', 'a', 'P', '.', 'e', 'r']) (by kernel_rfl) pat_owner]; kernel_rfl
end

end
section
/-- the eight words -/
noncomputable def wordL : List Str := [⟨#[97, 98, 99]⟩, ⟨#[65, 98, 99]⟩, ⟨#[97, 66, 99]⟩, ⟨#[65, 66, 99]⟩, ⟨#[97, 98, 67]⟩, ⟨#[65, 98, 67]⟩, ⟨#[97, 66, 67]⟩, ⟨#[65, 66, 67]⟩]
@[irreducible] noncomputable def wordF (k : Int) : Str := wordL.getD k.toNat default
noncomputable def chF (k : Int) (p : Nat) : Nat := (wordF k).cps.getD p 0
@[irreducible] noncomputable def nmF (k : Int) : Str := nameF (chF k 0) (chF k 1) (chF k 2)
@[irreducible] noncomputable def apF (j k : Int) : Int := subst ⟨#[chF j 0]⟩ ⟨#[chF k 0]⟩ + subst ⟨#[chF j 1]⟩ ⟨#[chF k 1]⟩ + subst ⟨#[chF j 2]⟩ ⟨#[chF k 2]⟩
theorem word_mk {k : Int} (h : 0 ≤ k ∧ k < 8) : wordF k = ⟨#[chF k 0, chF k 1, chF k 2]⟩ := by
  have e : k = 0 ∨ k = 1 ∨ k = 2 ∨ k = 3 ∨ k = 4 ∨ k = 5 ∨ k = 6 ∨ k = 7 := by omega
  rcases e with e | e | e | e | e | e | e | e <;> subst e <;> with_unfolding_all rfl
theorem name_clW (k : Int) (h : 0 ≤ k ∧ k < 8) (tx : Tok) : Cl w p loose mean mg mb 309 6 60 [.str (wordF k) tx] [] (RStr [] (nmF k)) := by
  rw [word_mk h]; unfold nmF; exact name_cl _ _ _ tx
theorem item_word {prog : Program} {A : Around} {E : Value → Shared → Prop} {s : Shared} {value slice : PySem.Expr} {l : Addr} {vs : List Value} {k : Int} {u : Tok} {Q : Value → Shared → Prop}
    (hl : s.heap.IsList l vs.toArray) (hv : StrsAre vs wordL) (h0 : 0 ≤ k ∧ k < 8) (h : ∀ t, Q (.str (wordF k) t) s)
    (hs : subscripted slice false (.ref l) (.int k u) = operate [.ref l, .int k u] (getItem (.ref l) (.int k u)) := by with_unfolding_all rfl) :
    wpAny (model prog w) A (subscriptTail value slice (.ref l) (.int k u)) Q E s :=
  item_strs hl hv h0.1 (by show k < 8; exact h0.2) (by decide) (fun t => by have := h t; unfold wordF at this; exact this) hs
theorem apart_clW (j k : Int) (hj : 0 ≤ j ∧ j < 8) (hk : 0 ≤ k ∧ k < 8) (tx ty : Tok) : Cl w p loose mean mg mb 274 6 60 [.str (wordF j) tx, .str (wordF k) ty] [] (RInt [] (apF j k)) := by
  rw [word_mk hj, word_mk hk]; unfold apF; exact apart_cl _ _ _ _ _ _ tx ty
/-- the names and their small letters -/
noncomputable def okL : List Str := [⟨#[97, 98, 99]⟩, ⟨#[65, 98, 99]⟩, ⟨#[97, 66, 99]⟩, ⟨#[65, 66, 99]⟩, ⟨#[97, 98, 67]⟩, ⟨#[65, 98, 67]⟩, ⟨#[97, 66, 67]⟩, ⟨#[65, 66, 67]⟩,
  ⟨#[65, 98, 98, 99, 99]⟩, ⟨#[97, 66, 66, 67, 67]⟩, ⟨#[97, 98, 98, 99, 99]⟩, ⟨#[97, 66, 66, 99]⟩, ⟨#[65, 98, 98, 67]⟩, ⟨#[97, 98, 98, 99]⟩, ⟨#[65, 66, 99, 99]⟩, ⟨#[97, 98, 67, 67]⟩, ⟨#[97, 98, 99, 99]⟩]
theorem ok_all : (([0, 1, 2, 3, 4, 5, 6, 7] : List Int).all fun k => okL.contains (wordF k) && okL.contains (nmF k) && okL.contains (Txt.lower (nmF k)) && decide ((nmF k).length ≤ 100)) = true := by decide +kernel
theorem k_mem8 {k : Int} (h : 0 ≤ k ∧ k < 8) : k ∈ ([0, 1, 2, 3, 4, 5, 6, 7] : List Int) := by
  have e : k = 0 ∨ k = 1 ∨ k = 2 ∨ k = 3 ∨ k = 4 ∨ k = 5 ∨ k = 6 ∨ k = 7 := by omega
  simpa using e
theorem ok_word {k : Int} (h : 0 ≤ k ∧ k < 8) : wordF k ∈ okL := by
  have := List.all_eq_true.mp ok_all k (k_mem8 h)
  simp only [Bool.and_eq_true] at this
  exact List.contains_iff_mem.mp this.1.1.1
theorem ok_name {k : Int} (h : 0 ≤ k ∧ k < 8) : nmF k ∈ okL := by
  have := List.all_eq_true.mp ok_all k (k_mem8 h)
  simp only [Bool.and_eq_true] at this
  exact List.contains_iff_mem.mp this.1.1.2
theorem ok_low {k : Int} (h : 0 ≤ k ∧ k < 8) : Txt.lower (nmF k) ∈ okL := by
  have := List.all_eq_true.mp ok_all k (k_mem8 h)
  simp only [Bool.and_eq_true] at this
  exact List.contains_iff_mem.mp this.1.2
theorem nm_len {k : Int} (h : 0 ≤ k ∧ k < 8) : (nmF k).length ≤ 100 := by
  have := List.all_eq_true.mp ok_all k (k_mem8 h)
  simp only [Bool.and_eq_true] at this
  exact of_decide_eq_true this.2
set_option maxHeartbeats 4000000 in
theorem pat_none {ω : World} {x : Str} (hx : x ∈ okL) (b : Bool) (t : Tok) (S : Setting) :
    peek (hd.heap_39 ω.params) S (Builtin.«re.Pattern.search» ⟨[.ref (bif b then 124 else 129), .str x t], []⟩) = some (.done (.ret .none)) := by
  simp only [okL, List.mem_cons, List.not_mem_nil, or_false] at hx
  cases b
  · rcases hx with h | h | h | h | h | h | h | h | h | h | h | h | h | h | h | h | h <;> subst h <;> kernel_rfl
  · rcases hx with h | h | h | h | h | h | h | h | h | h | h | h | h | h | h | h | h <;> subst h <;> kernel_rfl

end
section
section
variable {w : World} {A : Around} {s : Shared} {E : Value → Shared → Prop} {Q : Value → Shared → Prop}
theorem search_K (b : Bool) {x : Str} {t : Tok} (X : (hd.heap_39 w.params).In s.heap) (hx : x ∈ okL) (h : Q .none s) :
    wpAny (model PySem.Challenge.rw_sn0086_01.row.prog w) A (call (.builtin "re.Pattern.search") [.ref (bif b then 124 else 129), .str x t]) Q E s := by
  have hT : s.TypeIs (.ref (bif b then 124 else 129)) "re.Pattern" := by
    cases b
    · exact ⟨_, X 129 _ rfl, rfl⟩
    · exact ⟨_, X 124 _ rfl, rfl⟩
  refine call_meetsIn pat_slot hT pat_entry (pat_args _ _) (S := fun A R s => (hd.heap_39 w.params).In s.heap ∧ R (.ok (.ret .none)) s) (fun A R s hs => ?_) ⟨X, h⟩
  exact (Looks.of_peek (M := model PySem.Challenge.rw_sn0086_01.row.prog w) hs.1 (pat_none hx b t _)).here hs.2
theorem search_M (b : Bool) {pl : Sem Bool} {Q : Value × List Value → Shared → Prop} (X : (hd.heap_39 w.params).In s.heap) (h : Q (.builtin "re.Pattern.search", [.ref (bif b then 124 else 129)]) s) :
    wpAny (model PySem.Challenge.rw_sn0086_01.row.prog w) A (getMethod (.ref (bif b then 124 else 129)) "search" pl) Q E s := by
  have hT : s.TypeIs (.ref (bif b then 124 else 129)) "re.Pattern" := by
    cases b
    · exact ⟨_, X 129 _ rfl, rfl⟩
    · exact ⟨_, X 124 _ rfl, rfl⟩
  refine getMethod_builtin hT pat_attrs pat_slot pat_type (fun a e => ?_) h
  cases e
  cases b
  · exact ⟨_, X 129 _ rfl, rfl⟩
  · exact ⟨_, X 124 _ rfl, rfl⟩
theorem search_K124 {x : Str} {t : Tok} (X : (hd.heap_39 w.params).In s.heap) (hx : x ∈ okL) (h : Q .none s) :
    wpAny (model PySem.Challenge.rw_sn0086_01.row.prog w) A (call (.builtin "re.Pattern.search") [.ref 124, .str x t]) Q E s := search_K true X hx h
theorem search_K129 {x : Str} {t : Tok} (X : (hd.heap_39 w.params).In s.heap) (hx : x ∈ okL) (h : Q .none s) :
    wpAny (model PySem.Challenge.rw_sn0086_01.row.prog w) A (call (.builtin "re.Pattern.search") [.ref 129, .str x t]) Q E s := search_K false X hx h
theorem search_M124 {pl : Sem Bool} {Q : Value × List Value → Shared → Prop} (X : (hd.heap_39 w.params).In s.heap) (h : Q (.builtin "re.Pattern.search", [.ref 124]) s) :
    wpAny (model PySem.Challenge.rw_sn0086_01.row.prog w) A (getMethod (.ref 124) "search" pl) Q E s := search_M true X h
theorem search_M129 {pl : Sem Bool} {Q : Value × List Value → Shared → Prop} (X : (hd.heap_39 w.params).In s.heap) (h : Q (.builtin "re.Pattern.search", [.ref 129]) s) :
    wpAny (model PySem.Challenge.rw_sn0086_01.row.prog w) A (getMethod (.ref 129) "search" pl) Q E s := search_M false X h
theorem join_one_eq (sep x : Str) : Txt.join sep [x] = x := by
  cases x; simp [Txt.join, Builtin.Str.glued]
theorem join_one {prog : Program} {D : Addr} {x sep : Str} {t u : Tok} (hl : s.heap.IsList D #[.str x t]) (hs : sep.length ≤ 16) (hx : x.length ≤ 100) (h : ∀ t' k, Q (.str x t') { s with toks := k }) :
    wpAny (model prog w) A (call (.builtin "str.join") [.str sep u, .ref D]) Q E s :=
  join_listW hl (.cons x t .nil) hs (by simp only [List.map_cons, List.map_nil, List.sum_cons, List.sum_nil, List.length_cons, List.length_nil]; omega) (fun t' k => by rw [join_one_eq]; exact h t' k)
end
theorem word_len {k : Int} (h : 0 ≤ k ∧ k < 8) : (wordF k).length ≤ 100 := by
  rw [word_mk h]; exact (show (3 : Nat) ≤ 100 by decide)

end
section
noncomputable def AllTup (tl : List (Addr × Obj)) : Prop := ∀ p ∈ tl, p.2.cls = .type "tuple"
section
variable {prog : Program} {w : World} {A : Around} {E : Value → Shared → Prop} {s : Shared} {env : Env} {h₀ : Heap} {target : PySem.Expr} {body : List Stmt} {Q : Flow → Shared → Prop} {σ : Type}
/-- the end of a turn of a loop whose letter is a cell -/
noncomputable def CfEnd (h₀ : Heap) (L : Addr) (W : σ → List (Addr × Obj)) (M : σ → Str → Option Value) (Inv : List (Addr × Obj) → σ → Prop) (adr : List Addr) (tl : List (Addr × Obj)) (it : Addr × Obj) (s₁ s₂ : Shared) : Prop :=
  ∃ c add h' tk, s₂ = { s₁ with heap := h', toks := tk } ∧ Inv (add ++ tl) c ∧ AllTup add ∧ OwnOff add adr ∧ Fr h₀ L h' (M c) ∧ News h₀ L h' (it :: (W c ++ (add ++ tl)))
noncomputable def CfPost (h₀ : Heap) (L : Addr) (W : σ → List (Addr × Obj)) (M : σ → Str → Option Value) (Inv : List (Addr × Obj) → σ → Prop) (adr : List Addr) (tl : List (Addr × Obj)) (it : Addr × Obj) (s₁ : Shared) (Q : Flow → Shared → Prop) (f : Flow) (s₂ : Shared) : Prop :=
  match f with
  | .ret v => Q (.ret v) s₂
  | .brk => Q .next s₂
  | _ => CfEnd h₀ L W M Inv adr tl it s₁ s₂
theorem AllTup.app {a b : List (Addr × Obj)} (h : AllTup a) (h' : AllTup b) : AllTup (a ++ b) := fun p hp => (List.mem_append.mp hp).elim (h p) (h' p)
theorem off_app {a b : List (Addr × Obj)} {adr : List Addr} (h : OwnOff a adr) (h' : OwnOff b adr) : OwnOff (a ++ b) adr := fun p hp => (List.mem_append.mp hp).elim (h p) (h' p)
theorem cell_for {ax : Addr} {vs : List Value} {ns : List Int} {n : Nat} (W : σ → List (Addr × Obj)) (M : σ → Str → Option Value) (Inv : List Int → List (Addr × Obj) → σ → Prop) (adr : List Addr) (c₀ : σ) (tl₀ : List (Addr × Obj))
    (hh : A.handled = none) (F : Fr h₀ env.locals s.heap (M c₀)) (N : News h₀ env.locals s.heap (W c₀ ++ tl₀)) (hadr : ∀ c, (W c).map (·.1) = adr) (hl : ∀ c, (ax, listOf vs.toArray n) ∈ W c) (hi : IntsAre vs ns)
    (i0 : Inv [] tl₀ c₀) (t0 : AllTup tl₀) (o0 : OwnOff tl₀ adr)
    (turn : ∀ c tl pre k t post h tk I oI, ns = pre ++ k :: post → Inv pre tl c → AllTup tl → OwnOff tl adr → (∀ a ∈ adr, a < I) → Fr h₀ env.locals h (M c) → News h₀ env.locals h ((I, oI) :: (W c ++ tl)) →
      wpAny (model prog w) A (assign target env (.int k t)) (fun _ s₂ => wpAny (model prog w) A (execs body env) (CfPost h₀ env.locals W M (Inv (pre ++ [k])) adr tl (I, oI) { s with heap := h, toks := tk } Q) E s₂) E { s with heap := h, toks := tk })
    (done : ∀ c tl h tk, Inv ns tl c → AllTup tl → OwnOff tl adr → Fr h₀ env.locals h (M c) → News h₀ env.locals h (W c ++ tl) → Q .next { s with heap := h, toks := tk }) :
    wpAny (model prog w) A (pyIter (.ref ax)) (fun it s₂ => TurnsAt prog w A h₀ env target body Q E it s₂) E s := by
  refine iter_listTurns hh F N (List.mem_append_left _ (hl c₀)) rfl rfl (fun I hI => ?_)
  have lt : ∀ a ∈ adr, a < I := fun a ha => by
    rw [← hadr c₀] at ha
    obtain ⟨q, hq, rfl⟩ := List.mem_map.mp ha
    exact hI q (List.mem_append_left _ hq)
  have key : ∀ (us : List Value) (post : List Int), IntsAre us post → ∀ pre c tl, ns = pre ++ post → Inv pre tl c → AllTup tl → OwnOff tl adr →
      ItemsRest prog w A E h₀ env target body Q s [(I, "list_iterator")] [(ax, listOf vs.toArray n)] (us.map .val) (M c) (W c ++ tl) := by
    intro us post hu
    induction hu with
    | nil =>
      intro pre c tl e i t o
      rw [List.append_nil] at e
      subst e
      exact ItemsRest.zero fun h tk F N => done c tl h tk i t o F N
    | cons k u r ih =>
      rename_i vs' ns'
      intro pre c tl e i t o
      refine ItemsRest.val fun h tk F => AllObj.cons fun oI hc => AllObj.nil fun N' => ?_
      refine wpAny_mono (turn c tl pre k u ns' h tk I oI e i t o lt F N') (fun _ s₂ q => wpAny_mono q (fun f s₃ z => ?_) fun _ _ x => x) fun _ _ x => x
      have fin : CfEnd h₀ env.locals W M (Inv (pre ++ [k])) adr tl (I, oI) { s with heap := h, toks := tk } s₃ →
          UnrEndW h₀ env.locals { s with heap := h, toks := tk } [(I, oI)] (fun m' n' => SubL [(ax, listOf vs.toArray n)] n' ∧ ItemsRest prog w A E h₀ env target body Q s [(I, "list_iterator")] [(ax, listOf vs.toArray n)] (vs'.map .val) m' n') s₃ := by
        rintro ⟨c', add, h', tk', e3, i', a', oa, F3, N3⟩
        have ta := a'.app t
        refine ⟨h', tk', M c', W c' ++ (add ++ tl), e3, F3, N3, fun p hp q hq => ?_, ⟨List.mem_append_left _ (hl c'), trivial⟩, ?_⟩
        · rw [List.mem_singleton] at hq
          subst hq
          rcases List.mem_append.mp hp with hp | hp
          · exact Nat.ne_of_lt (lt _ (hadr c' ▸ List.mem_map_of_mem hp))
          · intro e4
            have h1 := (N3 p (List.mem_cons_of_mem _ (List.mem_append_right _ hp))).1
            have h2 := (N3 (I, oI) List.mem_cons_self).1
            rw [e4] at h1
            have h3 := congrArg Obj.cls (Option.some.inj (h1.symm.trans h2))
            rw [ta p hp, hc] at h3
            exact absurd (Value.type.inj h3) (show ¬ "tuple" = "list_iterator" by decide)
        · exact ih (pre ++ [k]) c' (add ++ tl) (by rw [e, List.append_assoc]; rfl) i' ta (off_app oa o)
      cases f with
      | ret v => exact z
      | brk => exact z
      | next => exact fin z
      | cont => exact fin z
  exact key vs ns hi [] c₀ tl₀ rfl i0 t0 o0
end

end
section
noncomputable def tupD (k : Int) : Dat := Dat.tuple [Dat.str (nmF k), Dat.str (wordF k)]
section
variable {prog : Program} {w : World} {A : Around} {E : Value → Shared → Prop} {s : Shared} {env : Env} {h₀ : Heap} {target : PySem.Expr} {body : List Stmt} {Q : Flow → Shared → Prop}
abbrev C1 : Type := List Value × Nat × Obj
noncomputable def W1 (x d l cT : Addr) (X DD : Obj) (fx : List (Addr × Obj)) (c : C1) : List (Addr × Obj) := (x, X) :: (d, DD) :: (l, listOf c.1.toArray c.2.1) :: (cT, c.2.2) :: fx
structure Inv1 (ns pre : List Int) (tl : List (Addr × Obj)) (c : C1) : Prop where
  d : DatAll tl c.1 (pre.map tupD)
  c : ∃ v, c.2.2.data = .cell v
theorem Inv1.len {ns pre : List Int} {tl : List (Addr × Obj)} {c : C1} (i : Inv1 ns pre tl c) : c.1.length = pre.length := by
  have := i.d.length
  rw [List.length_map] at this; exact this
theorem loop1 {ax x d l cT : Addr} {X DD oT : Obj} {fx : List (Addr × Obj)} {m : Str → Option Value} {vs : List Value} {ns : List Int} {n : Nat}
    (hh : A.handled = none) (F : Fr h₀ env.locals s.heap m) (N : News h₀ env.locals s.heap ((x, X) :: (d, DD) :: (l, listOf #[] 0) :: (cT, oT) :: fx)) (hd : ∃ v, oT.data = .cell v) (hl : (ax, listOf vs.toArray n) ∈ fx) (hi : IntsAre vs ns)
    (turn : ∀ tvs nn oT' v1 tl pre k t post h tk I oI, KstMark → ns = pre ++ k :: post → k ∈ ns → tvs.length = pre.length → DatAll tl tvs (pre.map tupD) → oT'.data = .cell v1 → AllTup tl → OwnOff tl (x :: d :: l :: cT :: fx.map (·.1)) → (∀ p ∈ (x, X) :: (d, DD) :: (l, listOf tvs.toArray nn) :: (cT, oT') :: fx, p.1 < I) → Fr h₀ env.locals h m → News h₀ env.locals h ((I, oI) :: (x, X) :: (d, DD) :: (l, listOf tvs.toArray nn) :: (cT, oT') :: (fx ++ tl)) →
      wpAny (model prog w) A (assign target env (.int k t)) (fun _ s₂ => wpAny (model prog w) A (execs body env) (CfPost h₀ env.locals (W1 x d l cT X DD fx) (fun _ => m) (Inv1 ns (pre ++ [k])) (x :: d :: l :: cT :: fx.map (·.1)) tl (I, oI) { s with heap := h, toks := tk } Q) E s₂) E { s with heap := h, toks := tk })
    (done : ∀ tvs nn oT' v1 tl h tk, KstMark → DatAll tl tvs (ns.map tupD) → oT'.data = .cell v1 → AllTup tl → OwnOff tl (x :: d :: l :: cT :: fx.map (·.1)) → Fr h₀ env.locals h m → News h₀ env.locals h ((x, X) :: (d, DD) :: (l, listOf tvs.toArray nn) :: (cT, oT') :: (fx ++ tl)) → Q .next { s with heap := h, toks := tk }) :
    wpAny (model prog w) A (pyIter (.ref ax)) (fun it s₂ => TurnsAt prog w A h₀ env target body Q E it s₂) E s := by
  refine cell_for (W1 x d l cT X DD fx) (fun _ => m) (Inv1 ns) (x :: d :: l :: cT :: fx.map (·.1)) ([], 0, oT) [] hh F (fun p hp => N p (by simpa [W1] using hp)) (fun c => rfl) (fun c => List.mem_cons_of_mem _ (List.mem_cons_of_mem _ (List.mem_cons_of_mem _ (List.mem_cons_of_mem _ hl)))) hi ⟨.nil, hd⟩ (fun _ h => nomatch h) (fun _ h => nomatch h) ?_ ?_
  · intro c tl pre k t post h tk I oI e i ta o lt F' N'
    obtain ⟨v1, hv⟩ := i.c
    refine turn c.1 c.2.1 c.2.2 v1 tl pre k t post h tk I oI kstMark e (by rw [e]; simp) i.len i.d hv ta o (fun p hp => lt p.1 ?_) F' N'
    exact List.mem_map_of_mem (f := (·.1)) hp
  · intro c tl h tk i ta o F' N'
    obtain ⟨v1, hv⟩ := i.c
    exact done c.1 c.2.1 c.2.2 v1 tl h tk kstMark i.d hv ta o F' N'
end

end
section
/-- the end of a turn of a comprehension: its ledger stands -/
noncomputable def TEl (h₀ : Heap) (L : Addr) (m : Str → Option Value) (led : List (Addr × Obj)) (s₁ : Shared) (r : Value → Prop) (y : Value) (s₂ : Shared) : Prop :=
  ∃ h' tk, s₂ = { s₁ with heap := h', toks := tk } ∧ Fr h₀ L h' m ∧ News h₀ L h' led ∧ r y
theorem tel {h₀ h' : Heap} {L : Addr} {m : Str → Option Value} {led all : List (Addr × Obj)} {s₁ : Shared} {r : Value → Prop} {y : Value} {tk : Nat} (F : Fr h₀ L h' m) (N : News h₀ L h' all) (hs : ∀ q ∈ led, q ∈ all) (hr : r y) :
    TEl h₀ L m led s₁ r y { s₁ with heap := h', toks := tk } := ⟨h', tk, rfl, F, fun q hq => N q (hs q hq), hr⟩
section
variable {prog : Program} {w : World} {A : Around} {h₀ : Heap} {L : Addr} {m : Str → Option Value} {env : Env} {ct elt : PySem.Expr} {x : Str} {scope : Scope} {cl : List (Str × Addr)} {s : Shared} {S : List (Addr × Obj) → Prop} {P : Nat → Value → Prop} {Fin : List Value → List (Addr × Obj) → Prop} {news : List (Addr × Obj)}
theorem comp_gen {n : Nat} {ks : List Int} (Pk : Int → Value → Prop) (G : Int → Bool) (Z : List Value → List Int → Prop) (El : Int → Value → Prop) (hn : ks.length = n) (hP : ∀ i v, i < n → P i v → ∃ k, ks[i]? = some k ∧ Pk k v) (z0 : Z [] [])
    (z1 : ∀ zs l k y, Z zs l → El k y → Z (zs ++ [y]) (l ++ [k])) (hS : S news)
    (turn : ∀ k v I oI C oC D m₂ zs l h tk (E' : Value → Shared → Prop), KstMark → k ∈ ks → Pk k v → Z zs l → LCg.NsObj oC m₂ → m₂ x = some v → Fr h₀ L h m → News h₀ L h ((I, oI) :: (C, oC) :: (D, LCg.lst zs) :: news) → LCg.Off3 I C D news → ((@Ne Nat I C) ∧ (@Ne Nat I D) ∧ (@Ne Nat C D)) →
      wpAny (model prog w) A (isTrue ct (compEnvC scope cl C env) (eval ct (compEnvC scope cl C env))) (fun b s' => if b = true then wpAny (model prog w) A (eval elt (compEnvC scope cl C env)) (TEl h₀ L m ((I, oI) :: (C, oC) :: (D, LCg.lst zs) :: news) { s with heap := h, toks := tk } (fun y => G k = true ∧ El k y)) E' s'
        else TEl h₀ L m ((I, oI) :: (C, oC) :: (D, LCg.lst zs) :: news) { s with heap := h, toks := tk } (fun _ => G k = false) Value.none s') E' { s with heap := h, toks := tk })
    (fin : ∀ zs, Z zs (ks.filter G) → Fin zs news) : LCt.CompRestT prog w A h₀ L m env ct elt x scope cl s S P Fin n 0 [] news := by
  have key : ∀ (j i : Nat) (zs : List Value), i + j = n → Z zs ((ks.take i).filter G) → LCt.CompRestT prog w A h₀ L m env ct elt x scope cl s S P Fin j i zs news := by
    intro j
    induction j with
    | zero =>
      intro i zs hi hz
      have e : i = ks.length := by omega
      subst e
      rw [List.take_length] at hz
      exact LCt.CompRestT.zero (fin zs hz)
    | succ j ih =>
      intro i zs hi hz
      refine LCt.CompRestT.succ ?_
      intro v I oI C oC D m₂ h tk E' hv hC hx F N off ne
      obtain ⟨k, hk, hp⟩ := hP i v (by omega) hv
      have hs : ks.take (i + 1) = ks.take i ++ [k] := by rw [List.take_add_one, hk]; rfl
      refine wpAny_mono (turn k v I oI C oC D m₂ zs _ h tk E' kstMark (List.mem_of_getElem? hk) hp hz hC hx F N off ne) (fun b s₂ hq => ?_) fun _ _ e => e
      cases b with
      | true =>
        simp only [if_true] at hq ⊢
        refine wpAny_mono hq (fun y s₃ hr => ?_) fun _ _ e => e
        obtain ⟨h', tk', e, F', N', hg, he⟩ := hr
        refine ⟨h', tk', news, e, F', N', off, hS, ih (i + 1) _ (by omega) ?_⟩
        rw [hs, List.filter_append, List.filter_cons, hg]
        exact z1 _ _ _ _ hz he
      | false =>
        simp only [Bool.false_eq_true, if_false] at hq ⊢
        obtain ⟨h', tk', e, F', N', hg⟩ := hq
        refine ⟨h', tk', news, e, F', N', off, hS, ih (i + 1) _ (by omega) ?_⟩
        rw [hs, List.filter_append, List.filter_cons, hg]
        simpa using hz
  exact key n 0 [] (by omega) (by simpa using z0)
end
/-- a list of words, by their places -/
noncomputable def ZW (zs : List Value) (l : List Int) : Prop := StrsAre zs (l.map wordF)
noncomputable def ElW (k : Int) (y : Value) : Prop := ∃ u, y = .str (wordF k) u
noncomputable def ElT (tl : List (Addr × Obj)) (k : Int) (y : Value) : Prop := ∃ a t u n, y = .ref a ∧ (a, ({ cls := .type "tuple", data := .seq #[.str (nmF k) t, .str (wordF k) u] n } : Obj)) ∈ tl
noncomputable def ElI (k : Int) (y : Value) : Prop := ∃ u, y = .int k u
theorem zw0 : ZW [] [] := .nil
theorem strs_app : ∀ {vs : List Value} {xs : List Str}, StrsAre vs xs → ∀ {us : List Value} {ys : List Str}, StrsAre us ys → StrsAre (vs ++ us) (xs ++ ys)
  | _, _, .nil, _, _, h => h
  | _, _, .cons x t r, _, _, h => .cons x t (strs_app r h)
theorem zw1 (zs : List Value) (l : List Int) (k : Int) (y : Value) (h : ZW zs l) (e : ElW k y) : ZW (zs ++ [y]) (l ++ [k]) := by
  obtain ⟨u, rfl⟩ := e
  unfold ZW at h ⊢
  rw [List.map_append]
  exact strs_app h (.cons _ u .nil)
theorem zi1 (zs : List Value) (l : List Int) (k : Int) (y : Value) (h : IntsAre zs l) (e : ElI k y) : IntsAre (zs ++ [y]) (l ++ [k]) := by
  obtain ⟨u, rfl⟩ := e
  exact h.append (.cons _ u .nil)
theorem pw_at {mvs : List Value} {ms : List Int} (h : ZW mvs ms) (i : Nat) (v : Value) (_ : i < mvs.toArray.size) (e : mvs.toArray[i]? = some v) : ∃ k, ms[i]? = some k ∧ ElW k v := by
  have hl := h.length
  rw [List.length_map] at hl
  have e' : mvs[i]? = some v := by simpa using e
  have hi : i < mvs.length := (List.getElem?_eq_some_iff.mp e').1
  obtain ⟨t, q⟩ := strs_at h (i := i) (by rw [List.length_map]; omega)
  rw [e'] at q
  have hi' : i < ms.length := by omega
  refine ⟨ms[i], List.getElem?_eq_getElem hi', t, ?_⟩
  rw [Option.some.inj q]
  simp [List.getD_eq_getElem?_getD, List.getElem?_eq_getElem hi']
theorem pt_at {tl : List (Addr × Obj)} {tvs : List Value} {ks : List Int} (h : DatAll tl tvs (ks.map tupD)) (i : Nat) (v : Value) (_ : i < tvs.toArray.size) (e : tvs.toArray[i]? = some v) : ∃ k, ks[i]? = some k ∧ ElT tl k v := by
  have hl := h.length
  rw [List.length_map] at hl
  have e' : tvs[i]? = some v := by simpa using e
  have hi : i < tvs.length := (List.getElem?_eq_some_iff.mp e').1
  have hi' : i < ks.length := by omega
  obtain ⟨v', hv, hd⟩ := h.get (k := i) (by rw [List.length_map]; exact hi')
  rw [e'] at hv
  have ev : v = v' := Option.some.inj hv
  subst ev
  refine ⟨ks[i], List.getElem?_eq_getElem hi', ?_⟩
  rw [List.getElem_map] at hd
  unfold tupD at hd
  cases hd with
  | tuple hm r =>
    rename_i a vs n
    cases r with
    | cons d1 r =>
      cases r with
      | cons d2 r =>
        cases r
        cases d1
        cases d2
        exact ⟨_, _, _, _, rfl, hm⟩
theorem pi_at {mvs : List Value} {ms : List Int} (h : IntsAre mvs ms) (i : Nat) (v : Value) (_ : i < mvs.toArray.size) (e : mvs.toArray[i]? = some v) : ∃ k, ms[i]? = some k ∧ ElI k v := by
  obtain ⟨k, t, e1, e2⟩ := IntsAre.at h i v (by simpa using e)
  exact ⟨k, e2, t, e1⟩
section
variable {prog : Program} {w : World} {A : Around} {s : Shared} {value slice : PySem.Expr} {E : Value → Shared → Prop} {Q : Value → Shared → Prop}
theorem tup0 {a : Addr} {u : Tok} {n : Nat} {v0 v1 : Value} (e : s.heap.get? a = some ({ cls := .type "tuple", data := .seq #[v0, v1] n } : Obj)) (h : Q v0 s)
    (hs : subscripted slice false (.ref a) (.int 0 u) = operate [.ref a, .int 0 u] (getItem (.ref a) (.int 0 u)) := by with_unfolding_all rfl) :
    wpAny (model prog w) A (subscriptTail value slice (.ref a) (.int 0 u)) Q E s :=
  have ht : IsTup s.heap a #[v0, v1] := ⟨_, e, rfl, n, rfl⟩
  tail_any ht.typeIs PySem.F.slot_tuple_getitem.lookup (getItem_tuple ht (by decide) (by decide) (j := 0) (show seqIndex? 0 2 = some 0 by decide) rfl h) hs
theorem tup1 {a : Addr} {u : Tok} {n : Nat} {v0 v1 : Value} (e : s.heap.get? a = some ({ cls := .type "tuple", data := .seq #[v0, v1] n } : Obj)) (h : Q v1 s)
    (hs : subscripted slice false (.ref a) (.int 1 u) = operate [.ref a, .int 1 u] (getItem (.ref a) (.int 1 u)) := by with_unfolding_all rfl) :
    wpAny (model prog w) A (subscriptTail value slice (.ref a) (.int 1 u)) Q E s :=
  have ht : IsTup s.heap a #[v0, v1] := ⟨_, e, rfl, n, rfl⟩
  tail_any ht.typeIs PySem.F.slot_tuple_getitem.lookup (getItem_tuple ht (by decide) (by decide) (j := 1) (show seqIndex? 1 2 = some 1 by decide) rfl h) hs
theorem es_ne {a b : Addr} {xs ys : List Value} {ns ms : List Str} (ha : s.heap.IsList a xs.toArray) (hb : s.heap.IsList b ys.toArray) (hi : StrsAre xs ns) (hj : StrsAre ys ms) (hoa : AllOk ns) (hob : AllOk ms) (hu : A.units + 64 < cLine) (h : Q (.bool (!decide (ns = ms))) s) :
    wpAny (model prog w) A (compareOp .NotEq (.ref a) (.ref b)) Q E s :=
  ne_dataH_same (reads_newData ha (es_carried hi)) (reads_newData hb (es_carried hj)) (es_shaped hoa) (es_shaped hob) hu (SeqAt.noMix_of_shape (.list .str) rfl _ _ (list_map_has fun _ => rfl) (list_map_has fun _ => rfl)) (by rw [es_same]; exact h)
end

end
section
section
variable {prog : Program} {w : World} {A : Around} {E : Value → Shared → Prop} {s : Shared} {env : Env} {h₀ : Heap} {target : PySem.Expr} {body : List Stmt} {Q : Flow → Shared → Prop}
theorem t1_end {L x d l cT D : Addr} {X DD oT' : Obj} {fx tl all : List (Addr × Obj)} {m : Str → Option Value} {ns pre : List Int} {k : Int} {tvs : List Value} {it : Addr × Obj} {nn nd : Nat} {a b : Tok} {v : Option Value} {h' : Heap} {tk : Nat} {s₁ : Shared}
    (F : Fr h₀ L h' m) (N : News h₀ L h' all) (hD : (D, ({ cls := .type "tuple", data := .seq #[.str (nmF k) a, .str (wordF k) b] nd } : Obj)) ∈ all)
    (hs : ∀ q ∈ it :: (x, X) :: (d, DD) :: (l, listOf (tvs.toArray.push (.ref D)) nn) :: (cT, oT') :: fx, q ∈ all) (ht : ∀ q ∈ tl, q ∈ all) (hc : oT'.data = .cell v) (dat : DatAll tl tvs (pre.map tupD)) (hn : ∀ q ∈ x :: d :: l :: cT :: fx.map (·.1), q ≠ D) :
    CfPost h₀ L (W1 x d l cT X DD fx) (fun _ => m) (Inv1 ns (pre ++ [k])) (x :: d :: l :: cT :: fx.map (·.1)) tl it s₁ Q .next { s₁ with heap := h', toks := tk } := by
  refine ⟨(tvs ++ [.ref D], nn, oT'), [(D, ({ cls := .type "tuple", data := .seq #[.str (nmF k) a, .str (wordF k) b] nd } : Obj))], h', tk, rfl, ⟨?_, v, hc⟩, ?_, ?_, F, fun q hq => N q ?_⟩
  · rw [List.map_append]
    refine DatAll.append (dat.mono fun p hp => List.mem_append_right _ hp) (.one ?_)
    exact .tuple (vs := [.str (nmF k) a, .str (wordF k) b]) (n := nd) (List.mem_append_left _ (List.mem_singleton.mpr rfl)) (.cons (.str _ a) (.cons (.str _ b) .nil))
  · intro p hp
    rw [List.mem_singleton] at hp; subst hp; rfl
  · intro p hp b hb
    rw [List.mem_singleton] at hp; subst hp
    exact fun e => hn b hb e.symm
  · rcases List.mem_cons.mp hq with rfl | hq
    · exact hs _ List.mem_cons_self
    rcases List.mem_append.mp hq with hq | hq
    · refine hs q (List.mem_cons_of_mem _ ?_)
      have e : W1 x d l cT X DD fx (tvs ++ [.ref D], nn, oT') = (x, X) :: (d, DD) :: (l, listOf (tvs.toArray.push (.ref D)) nn) :: (cT, oT') :: fx := by simp [W1]
      rw [e] at hq; exact hq
    · rcases List.mem_append.mp hq with hq | hq
      · rw [List.mem_singleton] at hq; subst hq; exact hD
      · exact ht q hq
/-- loop over red -/
noncomputable def mateF (k r : Int) : Bool := decide (Txt.lower (nmF k) = Txt.lower (nmF r))
noncomputable def farF (k r : Int) : Bool := decide (apF k r = 3)
noncomputable def faceF (ys : List Int) (r : Int) : Bool := decide (((ys.filter fun k => mateF k r).filter fun k => farF k r).map wordF ≠ [])
abbrev C2 : Type := List Value × Nat × Obj × Option Value
noncomputable def W2 (f : Addr) (cT : Addr) (fx fy : List (Addr × Obj)) (c : C2) : List (Addr × Obj) := (f, listOf c.1.toArray c.2.1) :: (fx ++ (cT, c.2.2.1) :: fy)
structure Inv2 (ys : List Int) (tl₀ : List (Addr × Obj)) (pre : List Int) (tl : List (Addr × Obj)) (c : C2) : Prop where
  i : IntsAre c.1 (pre.filter (faceF ys))
  t : tl = tl₀
  c : ∃ v, c.2.2.1.data = .cell v
noncomputable def M2 (y : Str) (m : Str → Option Value) (c : C2) : Str → Option Value := fun z => if z = y then c.2.2.2 else m z
theorem m2_0 (y : Str) (m : Str → Option Value) (c : C2) (e : c.2.2.2 = m y) : M2 y m c = m := by
  funext z; unfold M2; split
  · rename_i h; rw [h, e]
  · rfl
theorem loop2 (y : Str) {ax f cT : Addr} {oT : Obj} {fx fy tl : List (Addr × Obj)} {m : Str → Option Value} {vs : List Value} {ns ys : List Int} {n : Nat}
    (hh : A.handled = none) (F : Fr h₀ env.locals s.heap m) (N : News h₀ env.locals s.heap ((f, listOf #[] 0) :: (fx ++ ((cT, oT) :: fy ++ tl)))) (hd : ∃ v, oT.data = .cell v) (hl : (ax, listOf vs.toArray n) ∈ fy) (hi : IntsAre vs ns)
    (ht : AllTup tl) (ho : OwnOff tl (f :: (fx.map (·.1) ++ cT :: fy.map (·.1))))
    (turn : ∀ fvs nn oT' v1 u pre k t post h tk I oI, KstMark → ns = pre ++ k :: post → k ∈ ns → fvs.length ≤ pre.length → IntsAre fvs (pre.filter (faceF ys)) → oT'.data = .cell v1 → (∀ p ∈ (f, listOf fvs.toArray nn) :: (fx ++ (cT, oT') :: fy), p.1 < I) → Fr h₀ env.locals h (fun z => if z = y then u else m z) → News h₀ env.locals h ((I, oI) :: (f, listOf fvs.toArray nn) :: (fx ++ ((cT, oT') :: fy ++ tl))) →
      wpAny (model prog w) A (assign target env (.int k t)) (fun _ s₂ => wpAny (model prog w) A (execs body env) (CfPost h₀ env.locals (W2 f cT fx fy) (M2 y m) (Inv2 ys tl (pre ++ [k])) (f :: (fx.map (·.1) ++ cT :: fy.map (·.1))) tl (I, oI) { s with heap := h, toks := tk } Q) E s₂) E { s with heap := h, toks := tk })
    (done : ∀ fvs nn oT' u h tk, KstMark → IntsAre fvs (ns.filter (faceF ys)) → Fr h₀ env.locals h (fun z => if z = y then u else m z) → News h₀ env.locals h ((f, listOf fvs.toArray nn) :: (fx ++ ((cT, oT') :: fy ++ tl))) → Q .next { s with heap := h, toks := tk }) :
    wpAny (model prog w) A (pyIter (.ref ax)) (fun it s₂ => TurnsAt prog w A h₀ env target body Q E it s₂) E s := by
  have nw : ∀ (c : C2), W2 f cT fx fy c ++ tl = (f, listOf c.1.toArray c.2.1) :: (fx ++ ((cT, c.2.2.1) :: fy ++ tl)) := fun c => by simp [W2]
  refine cell_for (W2 f cT fx fy) (M2 y m) (Inv2 ys tl) (f :: (fx.map (·.1) ++ cT :: fy.map (·.1))) ([], 0, oT, m y) tl hh (by rw [m2_0 _ _ _ rfl]; exact F) (by rw [nw]; exact N) (fun c => by simp [W2]) (fun c => List.mem_cons_of_mem _ (List.mem_append_right _ (List.mem_cons_of_mem _ hl))) hi ⟨.nil, rfl, hd⟩ ht ho ?_ ?_
  · intro c tl' pre k t post h tk I oI e i ta o lt F' N'
    obtain ⟨v1, hv⟩ := i.c
    have et := i.t
    subst et
    rw [nw] at N'
    have len := i.i.length
    have len2 := List.length_filter_le (faceF ys) pre
    refine turn c.1 c.2.1 c.2.2.1 v1 c.2.2.2 pre k t post h tk I oI kstMark e (by rw [e]; simp) (by omega) i.i hv (fun p hp => lt p.1 ?_) F' N'
    have q := List.mem_map_of_mem (f := (·.1)) hp
    simpa using q
  · intro c tl' h tk i ta o F' N'
    have et := i.t
    subst et
    rw [nw] at N'
    exact done c.1 c.2.1 c.2.2.1 c.2.2.2 h tk kstMark i.i F' N'
theorem t2_end {y : Str} {L f cT : Addr} {oT' : Obj} {fx fy tl all : List (Addr × Obj)} {m : Str → Option Value} {ys pre gl : List Int} {k : Int} {fvs : List Value} {it : Addr × Obj} {nn : Nat} {v u : Option Value} {h' : Heap} {tk : Nat} {s₁ : Shared}
    (F : Fr h₀ L h' (fun z => if z = y then u else m z)) (N : News h₀ L h' all) (hi : IntsAre fvs gl) (hg : gl = (pre ++ [k]).filter (faceF ys))
    (hs : ∀ q ∈ it :: (f, listOf fvs.toArray nn) :: (fx ++ (cT, oT') :: fy), q ∈ all) (ht : ∀ q ∈ tl, q ∈ all) (hc : oT'.data = .cell v) :
    CfPost h₀ L (W2 f cT fx fy) (M2 y m) (Inv2 ys tl (pre ++ [k])) (f :: (fx.map (·.1) ++ cT :: fy.map (·.1))) tl it s₁ Q .next { s₁ with heap := h', toks := tk } := by
  refine ⟨(fvs, nn, oT', u), [], h', tk, rfl, ⟨hg ▸ hi, rfl, v, hc⟩, (fun _ h => nomatch h), (fun _ h => nomatch h), F, fun q hq => N q ?_⟩
  rcases List.mem_cons.mp hq with rfl | hq
  · exact hs _ List.mem_cons_self
  rcases List.mem_append.mp hq with hq | hq
  · exact hs q (List.mem_cons_of_mem _ hq)
  · exact ht q hq
theorem loop2w (y : Str) {ax f cT : Addr} {oT : Obj} {e1 e2 e3 e5 e6 e7 e8 : Addr × Obj} {tl : List (Addr × Obj)} {m : Str → Option Value} {vs : List Value} {ns ys : List Int} {n : Nat}
    (hh : A.handled = none) (F : Fr h₀ env.locals s.heap m) (N : News h₀ env.locals s.heap ((f, listOf #[] 0) :: e1 :: e2 :: e3 :: (cT, oT) :: e5 :: e6 :: e7 :: e8 :: tl)) (hd : ∃ v, oT.data = .cell v) (hl : (ax, listOf vs.toArray n) ∈ [e5, e6, e7, e8]) (hi : IntsAre vs ns)
    (ht : AllTup tl) (ho : ∀ p ∈ tl, p.1 ≠ f) (ho2 : OwnOff tl [e1.1, e2.1, e3.1, cT, e5.1, e6.1, e7.1, e8.1])
    (turn : ∀ fvs nn oT' v1 u pre k t post h tk I oI, KstMark → ns = pre ++ k :: post → k ∈ ns → fvs.length ≤ pre.length → IntsAre fvs (pre.filter (faceF ys)) → oT'.data = .cell v1 → (∀ p ∈ [(f, listOf fvs.toArray nn), e1, e2, e3, (cT, oT'), e5, e6, e7, e8], p.1 < I) → Fr h₀ env.locals h (fun z => if z = y then u else m z) → News h₀ env.locals h ((I, oI) :: (f, listOf fvs.toArray nn) :: e1 :: e2 :: e3 :: (cT, oT') :: e5 :: e6 :: e7 :: e8 :: tl) →
      OwnOff tl [f, e1.1, e2.1, e3.1, cT, e5.1, e6.1, e7.1, e8.1] →
      wpAny (model prog w) A (assign target env (.int k t)) (fun _ s₂ => wpAny (model prog w) A (execs body env) (CfPost h₀ env.locals (W2 f cT [e1, e2, e3] [e5, e6, e7, e8]) (M2 y m) (Inv2 ys tl (pre ++ [k])) (f :: ([e1, e2, e3].map (·.1) ++ cT :: [e5, e6, e7, e8].map (·.1))) tl (I, oI) { s with heap := h, toks := tk } Q) E s₂) E { s with heap := h, toks := tk })
    (done : ∀ fvs nn oT' u h tk, KstMark → IntsAre fvs (ns.filter (faceF ys)) → Fr h₀ env.locals h (fun z => if z = y then u else m z) → News h₀ env.locals h ((f, listOf fvs.toArray nn) :: e1 :: e2 :: e3 :: (cT, oT') :: e5 :: e6 :: e7 :: e8 :: tl) → Q .next { s with heap := h, toks := tk }) :
    wpAny (model prog w) A (pyIter (.ref ax)) (fun it s₂ => TurnsAt prog w A h₀ env target body Q E it s₂) E s := by
  have o3 : OwnOff tl [f, e1.1, e2.1, e3.1, cT, e5.1, e6.1, e7.1, e8.1] := fun p hp b hb => by
    rcases List.mem_cons.mp hb with rfl | hb
    · exact ho p hp
    · exact ho2 p hp b hb
  exact loop2 y (ys := ys) (fx := [e1, e2, e3]) (fy := [e5, e6, e7, e8]) hh F N hd hl hi ht o3 (fun fvs nn oT' v1 u pre k t post h tk I oI a1 a2 a3 a4 a5 a6 a7 F' N' => turn fvs nn oT' v1 u pre k t post h tk I oI a1 a2 a3 a4 a5 a6 a7 F' N' o3) (fun fvs nn oT' u h tk a1 a2 F' N' => done fvs nn oT' u h tk a1 a2 F' N')
end

end
section
section
variable {prog : Program} {A₀ A : Around} {s : Shared} {base h₀ : Heap} {outer : List Env} {L : Addr} {m : Str → Option Value} {env : Env} {vis rest : List (Addr × Obj)} {K : Frag}
  {R : Result → Shared → Prop} {name qual : Str} {params : Arguments} {body : List Stmt} {scope : Scope} {dV kV doc pm cdv ct oc : Value} {an od : Option Addr} {osl : Array (Option Value)} {f : Addr} {args : Args} {binds : List (Str × Value)}
theorem code_defCW (B : Below A₀ base outer h₀) (F : Fr h₀ L s.heap m) (X₀ : K.In h₀) (N : News h₀ L s.heap (vis ++ rest)) (O : Off vis rest) (T : Top p loose mean mg mb h₀) (hA : A.frames = some (env :: outer)) (hf : env.frame = some L) (hke : env.scope.kind = .function)
    (ho : K.lookup f = some ⟨oc, od, .func (fnOf name qual params body scope dV kV doc pm an cdv ct), osl⟩) (hcd : codeIn K cdv qual = true) (hroom : A.depth < recursionLimit)
    (hbind : BindsTo s (fnOf name qual params body scope dV kV doc pm an cdv ct) args binds) (hkind : (binds.all fun y => scope.names.lookup y.1 == some .local || scope.names.lookup y.1 == some .cell) = true)
    (hnd : ((cellsFrom 0 scope.names []).map (·.1)).Nodup)
    (h : ∀ g L' h₁ tk cells, (∀ b o, s.heap.get? b = some o → (∀ q ∈ vis, b ≠ q.1) → g.get? b = some o) → Fr h₀ L g m → Fr g L' h₁ (bindL (envOfC qual scope L' f cdv).kindOf binds fun _ => none) → News g L' h₁ (cells ++ vis) →
      CellsAre (bindC (envOfC qual scope L' f cdv).kindOf binds fun _ => none) (cellsFrom (L' + 1) scope.names []) cells → Below A base (env :: outer) g → K.In g → Top p loose mean mg mb g → (∀ q ∈ vis, q.1 < L') → s.heap.objs.size ≤ L' →
      wpAny (model prog w) (A.deeper (envOfC qual scope L' f cdv)) (execs body (envOfC qual scope L' f cdv))
        (fun fl s' => LeaveK h₀ L m g (fun r s'' => ClEnd rest s''.heap (R r s'')) (match fl with | .ret v => v | _ => .none) s')
        (fun e s' => wpAny (model prog w) (A.deeper (envOfC qual scope L' f cdv)) (leaving (envOfC qual scope L' f cdv) e) (fun _ s'' => R (.error e) s'') (fun e' s'' => R (.error e') s'') s')
        { s with heap := h₁, toks := tk })
    (hco : scope.isCoroutine = false) (hgen : scope.isGenerator = false) (hk : scope.kind = .function) : codeAny (model prog w) A (.call (.ref f) args) R s := by
  have NV : News h₀ L s.heap vis := fun q hq => N q (List.mem_append_left _ hq)
  obtain ⟨FG, BG, st, lv⟩ := groundX (R := fun r s'' => ClEnd rest s''.heap (R r s'')) B F NV hA hf hke
  refine codeAny_call_function hroom ((X₀.keeps F.keep) _ _ ho) rfl hco hgen rfl (codeRec_of (X₀.keeps F.keep) hcd) (hbind _ _ _ _ ?_)
  refine wpAny_newFunctionEnv_cells hk (kindsX hkind _) fun env' he s' x => ?_
  subst he
  refine ⟨(T.nolimit.keeps F.keep).keeps x.toInCall.keep, codeAny_func ?_⟩
  obtain ⟨h₁, tk, rfl, _⟩ := x.done
  have hk₁ := x.toInCall.keep
  obtain ⟨cells, NC, Y⟩ := Cl.news (h₀ := s.heap) (Nat.le_refl _) fun n c hm => ⟨x.cell n c (lookup_of_mem_nodup (cellsFrom_names scope.names 0 (s.heap.objs.size + 1) [] [] rfl ▸ hnd) hm), x.above n c hm⟩
  refine wpAny_mono (h _ s.heap.objs.size h₁ tk cells (fun b o e hn => hideAll_get _ e fun hm => ?_) FG ⟨x.toInCall.ns, fun b o e => hk₁ b o (of_hideAll _ e), Nat.le_of_eq (hideAll_size _ _)⟩ (fun q hq => ?_) Y BG (X₀.keeps st) (T.keeps st) (fun q hq => Heap.lt_size (NV q hq).1) (Nat.le_refl _)) (fun fl s' hl => ?_) fun _ _ y => y
  · obtain ⟨r, hr, e'⟩ := List.mem_map.mp hm
    exact hn r hr e'.symm
  · rcases List.mem_append.mp hq with hq | hq
    · refine ⟨(NC q hq).1, (NC q hq).2.1, ?_⟩
      cases z : (hideAll s.heap (vis.map (·.1))).get? q.1 with
      | none => rfl
      | some o => have := of_hideAll _ z; rw [(NC q hq).2.2] at this; cases this
    · exact ⟨hk₁ _ _ (NV q hq).1, Nat.ne_of_lt (Heap.lt_size (NV q hq).1), hideAll_none _ (List.mem_map_of_mem hq)⟩
  · have q := lv _ _ hl
    obtain ⟨L', m', news', F', _, _⟩ := hl
    exact q (kept_of N O rfl F')
end

end
section
noncomputable def RMates (l0 : List (Addr × Obj)) (l : List Int) : Addr → Value → List (Addr × Obj) → Prop := fun _ v n => ∃ D zs, v = .ref D ∧ ZW zs l ∧ n = (D, LCg.lst zs) :: l0
theorem rows_a36 : True := by
  k_with_none
  k_with "m:cl enter" => (((refine wpAny_call ?_); k_dflt (refine' code_defV ?k1 ?k2 ?k3 ?k4 ?kO ?k5 ?kA ?kF ?kK ?k6 ?k7 ?k8 ?k9 ?kB ?_ ?c2 ?c3 ?c4 ?c5; (case kA => exact rfl); (case kF => exact rfl); (case kK => assumption); (case k1 => k_asm); (case k2 => k_asm); (case k3 => k_asm); (case k4 => k_asm); (case kO => k_asm); (case k5 => k_asm); (case k6 => k_is); (case k7 => k_is); (case k8 => ktr_room); (case k9 => first | exact BindsTo.of_eq rfl | exact binds_K (by k_in) rfl (by k_is) rfl rfl rfl | (refine' kp_binds ?kx ?ke; (case kx => k_in); (case ke => exact fun _ => rfl))); (case c5 => decide); (case kB => exact locs rfl); (case c2 => exact rfl); (case c3 => exact rfl); (case c4 => exact rfl); k_whole; intro g' L' h' FG' F' N' B' X' T' l1 lim'; (try k_lt l1); (try dsimp only); (try k_fold))))
  k_with "m:cl enterC" => (((refine wpAny_call ?_); k_dflt (refine' code_defCV ?k1 ?k2 ?k3 ?k4 ?kO ?k5 ?kA ?kF ?kK ?k6 ?k7 ?k8 ?k9 ?kB ?kD ?_ ?c2 ?c3 ?c4; (case kA => exact rfl); (case kF => exact rfl); (case kK => assumption); (case k1 => k_asm); (case k2 => k_asm); (case k3 => k_asm); (case k4 => k_asm); (case kO => k_asm); (case k5 => k_asm); (case k6 => k_is); (case k7 => k_is); (case k8 => ktr_room); (case k9 => first | exact BindsTo.of_eq rfl | exact binds_K (by k_in) rfl (by k_is) rfl rfl rfl | (refine' kp_binds ?kx ?ke; (case kx => k_in); (case ke => exact fun _ => rfl))); (case kB => exact rfl); (case kD => decide +kernel); (case c2 => exact rfl); (case c3 => exact rfl); (case c4 => exact rfl); k_whole; intro g' L' h' tk' cells' FG' F' N' Y' B' X' T' l1 lim'; (try k_lt l1); k_cells Y'; (try simp only [List.cons_append, List.nil_append] at N'); (try dsimp only); (try k_fold))))
  k_with "m:cl sub" => (first | exact fun _ h => h | exact List.forall_mem_nil _ | kcj_all)
  k_with "m:cl end" => ((refine' cl_end ?h ?N ?F ?N2 ?_ ?_; (case h => assumption); (case N => assumption); (case F => k_asm); (case N2 => k_asm); rotate_left))
  k_with "m:cl int" => ((refine' cl_end ?h ?N ?F ?N2 ?hn (r_int ?_); (case h => assumption); (case N => assumption); (case F => k_asm); (case N2 => k_asm); (case hn => walk_at "cl sub")))
  k_with "m:cl str" => ((refine' cl_end ?h ?N ?F ?N2 ?hn (r_str ?_); (case h => assumption); (case N => assumption); (case F => k_asm); (case N2 => k_asm); (case hn => walk_at "cl sub")))
  k_with "m:cl bool" => ((refine' cl_end ?h ?N ?F ?N2 ?hn (r_bool ?_); (case h => assumption); (case N => assumption); (case F => k_asm); (case N2 => k_asm); (case hn => walk_at "cl sub")))
  k_with "m:call builtin:list.append" => ((k_here; (with_reducible show wpAny _ _ (call (Value.builtin _) [Value.ref _, _]) _ _ _); k_dflt (refine' append_K ?k1 ?k2 ?k3 ?_ ?z; (case k1 => k_asm); (case k2 => k_asm); (case k3 => k_upd); (case z => exact Nat.le_of_ble_eq_true rfl); k_whole); intro h' F' N'; (try k_sweep)))
  k_with "m:call ref" => ((k_here; k_dflt (k_extra "call ref")))
  k_with "m:cl off1" => (first | exact List.forall_mem_nil _ | exact OwnOff.ne (by assumption) (by simp) | (refine List.forall_mem_cons.mpr ⟨?_, ?_⟩ <;> walk_at "cl off1") | k_ne)
  k_with "m:cl off" => ((unfold Off; walk_at "cl off1"))
  k_with "m:cl mem" => (first | exact List.forall_mem_nil _ | (refine List.forall_mem_cons.mpr ⟨by k_mem, ?_⟩; walk_at "cl mem") | (intro p9 h9; kst_mem))
  k_with "m:cl all" => (((try simp only [List.cons_append, List.nil_append, List.append_nil]); walk_at "cl mem"))
  k_with "m:execs cons" => ((k_here; (with_reducible refine tok_add ?_); intro tk; (try dsimp only); (try k_fold)))
  k_with "m:storeName" => ((k_here; first | ((with_reducible refine tok_sp ?_); intro t9) | ((with_reducible refine tok_st ?_); intro t9)))
  trivial
theorem mate_t {k r : Int} (h : (Txt.lower (nmF k) == Txt.lower (nmF r)) = true) : mateF k r = true := decide_eq_true (beq_iff_eq.mp h)
theorem mate_f {k r : Int} (h : ¬ (Txt.lower (nmF k) == Txt.lower (nmF r)) = true) : mateF k r = false := decide_eq_false fun e => h (beq_iff_eq.mpr e)
theorem mate_g {k r : Int} (h : (Txt.lower (nmF k) == Txt.lower (nmF r)) = false) : mateF k r = false := decide_eq_false fun e => by rw [beq_iff_eq.mpr e] at h; cases h
theorem first_f {p : Prop} (h : p) : p := h
theorem tl_keep {h g : Heap} {tl vis : List (Addr × Obj)} (P : ∀ q ∈ tl, h.get? q.1 = some q.2) (k : ∀ b o, h.get? b = some o → (∀ q ∈ vis, b ≠ q.1) → g.get? b = some o) (off : ∀ q ∈ tl, ∀ v ∈ vis, q.1 ≠ v.1) : ∀ q ∈ tl, g.get? q.1 = some q.2 :=
  fun q hq => k q.1 q.2 (P q hq) (off q hq)
local macro_rules | `(tactic| k_room) => `(tactic| ktr_room)
theorem rows_a37 : True := by
  k_with_none
  k_with "m:cl enter" => (((refine wpAny_call ?_); k_dflt (refine' code_defV ?k1 ?k2 ?k3 ?k4 ?kO ?k5 ?kA ?kF ?kK ?k6 ?k7 ?k8 ?k9 ?kB ?_ ?c2 ?c3 ?c4 ?c5; (case kA => exact rfl); (case kF => exact rfl); (case kK => assumption); (case k1 => k_asm); (case k2 => k_asm); (case k3 => k_asm); (case k4 => k_asm); (case kO => k_asm); (case k5 => k_asm); (case k6 => k_is); (case k7 => k_is); (case k8 => ktr_room); (case k9 => first | exact BindsTo.of_eq rfl | exact binds_K (by k_in) rfl (by k_is) rfl rfl rfl | (refine' kp_binds ?kx ?ke; (case kx => k_in); (case ke => exact fun _ => rfl))); (case c5 => decide); (case kB => exact locs rfl); (case c2 => exact rfl); (case c3 => exact rfl); (case c4 => exact rfl); k_whole; intro g' L' h' FG' F' N' B' X' T' l1 lim'; (try k_lt l1); (try dsimp only); (try k_fold))))
  k_with "m:cl enterC" => (((refine wpAny_call ?_); k_dflt (refine' code_defCV ?k1 ?k2 ?k3 ?k4 ?kO ?k5 ?kA ?kF ?kK ?k6 ?k7 ?k8 ?k9 ?kB ?kD ?_ ?c2 ?c3 ?c4; (case kA => exact rfl); (case kF => exact rfl); (case kK => assumption); (case k1 => k_asm); (case k2 => k_asm); (case k3 => k_asm); (case k4 => k_asm); (case kO => k_asm); (case k5 => k_asm); (case k6 => k_is); (case k7 => k_is); (case k8 => ktr_room); (case k9 => first | exact BindsTo.of_eq rfl | exact binds_K (by k_in) rfl (by k_is) rfl rfl rfl | (refine' kp_binds ?kx ?ke; (case kx => k_in); (case ke => exact fun _ => rfl))); (case kB => exact rfl); (case kD => decide +kernel); (case c2 => exact rfl); (case c3 => exact rfl); (case c4 => exact rfl); k_whole; intro g' L' h' tk' cells' FG' F' N' Y' B' X' T' l1 lim'; (try k_lt l1); k_cells Y'; (try simp only [List.cons_append, List.nil_append] at N'); (try dsimp only); (try k_fold))))
  k_with "m:cl sub" => (first | exact fun _ h => h | exact List.forall_mem_nil _ | kcj_all)
  k_with "m:cl end" => ((refine' cl_end ?h ?N ?F ?N2 ?_ ?_; (case h => assumption); (case N => assumption); (case F => k_asm); (case N2 => k_asm); rotate_left))
  k_with "m:cl int" => ((refine' cl_end ?h ?N ?F ?N2 ?hn (r_int ?_); (case h => assumption); (case N => assumption); (case F => k_asm); (case N2 => k_asm); (case hn => walk_at "cl sub")))
  k_with "m:cl str" => ((refine' cl_end ?h ?N ?F ?N2 ?hn (r_str ?_); (case h => assumption); (case N => assumption); (case F => k_asm); (case N2 => k_asm); (case hn => walk_at "cl sub")))
  k_with "m:cl bool" => ((refine' cl_end ?h ?N ?F ?N2 ?hn (r_bool ?_); (case h => assumption); (case N => assumption); (case F => k_asm); (case N2 => k_asm); (case hn => walk_at "cl sub")))
  k_with "m:call builtin:list.append" => ((k_here; (with_reducible show wpAny _ _ (call (Value.builtin _) [Value.ref _, _]) _ _ _); k_dflt (refine' append_K ?k1 ?k2 ?k3 ?_ ?z; (case k1 => k_asm); (case k2 => k_asm); (case k3 => k_upd); (case z => exact Nat.le_of_ble_eq_true rfl); k_whole); intro h' F' N'; (try k_sweep)))
  k_with "m:call ref" => ((k_here; k_dflt (k_extra "call ref")))
  k_with "m:cl off1" => (first | exact List.forall_mem_nil _ | exact OwnOff.ne (by assumption) (by simp) | (refine List.forall_mem_cons.mpr ⟨?_, ?_⟩ <;> walk_at "cl off1") | k_ne)
  k_with "m:cl off" => ((unfold Off; walk_at "cl off1"))
  k_with "m:cl mem" => (first | exact List.forall_mem_nil _ | (refine List.forall_mem_cons.mpr ⟨by k_mem, ?_⟩; walk_at "cl mem") | (intro p9 h9; kst_mem))
  k_with "m:cl all" => (((try simp only [List.cons_append, List.nil_append, List.append_nil]); walk_at "cl mem"))
  k_with "m:execs cons" => ((k_here; (with_reducible refine tok_add ?_); intro tk; (try dsimp only); (try k_fold)))
  k_with "m:storeName" => ((k_here; first | ((with_reducible refine tok_sp ?_); intro t9) | ((with_reducible refine tok_st ?_); intro t9)))
  k_with "m:cl enterCW" => (((refine wpAny_call ?_); k_dflt (refine' code_defCW ?k1 ?k2 ?k3 ?k4 ?kO ?k5 ?kA ?kF ?kK ?k6 ?k7 ?k8 ?k9 ?kB ?kD ?_ ?c2 ?c3 ?c4; (case kA => exact rfl); (case kF => exact rfl); (case kK => assumption); (case k1 => k_asm); (case k2 => k_asm); (case k3 => k_asm); (case k4 => k_asm); (case kO => k_asm); (case k5 => k_asm); (case k6 => k_is); (case k7 => k_is); (case k8 => ktr_room); (case k9 => first | exact BindsTo.of_eq rfl | exact binds_K (by k_in) rfl (by k_is) rfl rfl rfl | (refine' kp_binds ?kx ?ke; (case kx => k_in); (case ke => exact fun _ => rfl))); (case kB => exact rfl); (case kD => decide +kernel); (case c2 => exact rfl); (case c3 => exact rfl); (case c4 => exact rfl); k_whole; intro g' L' h' tk' cells' kg' FG' F' N' Y' B' X' T' l1 lim'; (try k_lt l1); k_cells Y'; (try simp only [List.cons_append, List.nil_append] at N'); (try dsimp only); (try k_fold))))
  k_with "m:getMethod ref" => ((k_here; first | ((with_reducible show wpAny _ _ (getMethod (Value.ref 124) _ _) _ _ _); k_dflt (refine' search_M124 ?X ?_; (case X => k_in))) | ((with_reducible show wpAny _ _ (getMethod (Value.ref 129) _ _) _ _ _); k_dflt (refine' search_M129 ?X ?_; (case X => k_in)))))
  k_with "m:call builtin:re.Pattern.search" => ((k_here; first | ((with_reducible show wpAny _ _ (call _ [Value.ref 124, _]) _ _ _); k_dflt (refine' search_K124 ?X ?o ?_; (case X => k_in); (case o => (k_extra "ok")))) | ((with_reducible show wpAny _ _ (call _ [Value.ref 129, _]) _ _ _); k_dflt (refine' search_K129 ?X ?o ?_; (case X => k_in); (case o => (k_extra "ok"))))))
  k_with "m:call builtin:str.lower" => ((k_here; k_dflt (refine SCL.lower (Nat.le_trans (nm_len (by (k_extra "nrng"))) (by decide)) (fun _ => ?_))))
  k_with "m:CompSrcT" => ((k_here; k_dflt (k_extra "comp")))
  k_with "m:subscriptTail Name Constant ref int" => ((k_here; k_dflt (k_extra "tup")))
  trivial
set_option maxHeartbeats 1500000 in
theorem getall_cl (x d l : Addr) (e : DictEntry) (tvs : List Value) (nn : Nat) (tl : List (Addr × Obj)) (ys : List Int) (r : Int) (tr kt : Tok) (hk0 : e = ⟨PyData.keyHash w.params (PySem.Str.ofString "_headers"), .str (PySem.Str.ofString "_headers") kt, .ref l⟩) (kDat : DatAll tl tvs (ys.map tupD)) (hy8 : ys.length ≤ 8) (hys : ∀ t ∈ ys, 0 ≤ t ∧ t < 8) (hr : 0 ≤ r ∧ r < 8) (off : OwnOff tl [x, d, l]) (hxd : @LT.lt Nat _ d x) (hdl : @LT.lt Nat _ l d) :
    ClP w p loose mean mg mb (fun h => ∀ q ∈ tl, h.get? q.1 = some q.2) 197 10 60 [.ref x, .str (nmF r) tr] [(x, instObj 258 d), (d, dictOf [e] 1), (l, listOf tvs.toArray nn)] (RMates [(x, instObj 258 d), (d, dictOf [e] 1), (l, listOf tvs.toArray nn)] (ys.filter fun k => mateF k r)) := by
  subst hk0
  unfold ClP
  k_fill
  intro rest dp un gd cn cs a₀ ccd cl outer A₀ base h₀ L m s Q E P B CD F X N O T hk hd hu hret
  walk_at "cl enterCW"
  have keepG := tl_keep P (by assumption) (fun q hq v hv => off q hq v.1 (by
    simp only [List.mem_cons, List.not_mem_nil, or_false] at hv ⊢
    rcases hv with h | h | h <;> subst h <;> simp))
  k_with_none
  k_with "m:cl enter" => (((refine wpAny_call ?_); k_dflt (refine' code_defV ?k1 ?k2 ?k3 ?k4 ?kO ?k5 ?kA ?kF ?kK ?k6 ?k7 ?k8 ?k9 ?kB ?_ ?c2 ?c3 ?c4 ?c5; (case kA => exact rfl); (case kF => exact rfl); (case kK => assumption); (case k1 => k_asm); (case k2 => k_asm); (case k3 => k_asm); (case k4 => k_asm); (case kO => k_asm); (case k5 => k_asm); (case k6 => k_is); (case k7 => k_is); (case k8 => ktr_room); (case k9 => first | exact BindsTo.of_eq rfl | exact binds_K (by k_in) rfl (by k_is) rfl rfl rfl | (refine' kp_binds ?kx ?ke; (case kx => k_in); (case ke => exact fun _ => rfl))); (case c5 => decide); (case kB => exact locs rfl); (case c2 => exact rfl); (case c3 => exact rfl); (case c4 => exact rfl); k_whole; intro g' L' h' FG' F' N' B' X' T' l1 lim'; (try k_lt l1); (try dsimp only); (try k_fold))))
  k_with "m:cl enterC" => (((refine wpAny_call ?_); k_dflt (refine' code_defCV ?k1 ?k2 ?k3 ?k4 ?kO ?k5 ?kA ?kF ?kK ?k6 ?k7 ?k8 ?k9 ?kB ?kD ?_ ?c2 ?c3 ?c4; (case kA => exact rfl); (case kF => exact rfl); (case kK => assumption); (case k1 => k_asm); (case k2 => k_asm); (case k3 => k_asm); (case k4 => k_asm); (case kO => k_asm); (case k5 => k_asm); (case k6 => k_is); (case k7 => k_is); (case k8 => ktr_room); (case k9 => first | exact BindsTo.of_eq rfl | exact binds_K (by k_in) rfl (by k_is) rfl rfl rfl | (refine' kp_binds ?kx ?ke; (case kx => k_in); (case ke => exact fun _ => rfl))); (case kB => exact rfl); (case kD => decide +kernel); (case c2 => exact rfl); (case c3 => exact rfl); (case c4 => exact rfl); k_whole; intro g' L' h' tk' cells' FG' F' N' Y' B' X' T' l1 lim'; (try k_lt l1); k_cells Y'; (try simp only [List.cons_append, List.nil_append] at N'); (try dsimp only); (try k_fold))))
  k_with "m:cl sub" => (first | exact fun _ h => h | exact List.forall_mem_nil _ | kcj_all)
  k_with "m:cl end" => ((refine' cl_end ?h ?N ?F ?N2 ?_ ?_; (case h => assumption); (case N => assumption); (case F => k_asm); (case N2 => k_asm); rotate_left))
  k_with "m:cl int" => ((refine' cl_end ?h ?N ?F ?N2 ?hn (r_int ?_); (case h => assumption); (case N => assumption); (case F => k_asm); (case N2 => k_asm); (case hn => walk_at "cl sub")))
  k_with "m:cl str" => ((refine' cl_end ?h ?N ?F ?N2 ?hn (r_str ?_); (case h => assumption); (case N => assumption); (case F => k_asm); (case N2 => k_asm); (case hn => walk_at "cl sub")))
  k_with "m:cl bool" => ((refine' cl_end ?h ?N ?F ?N2 ?hn (r_bool ?_); (case h => assumption); (case N => assumption); (case F => k_asm); (case N2 => k_asm); (case hn => walk_at "cl sub")))
  k_with "m:call builtin:list.append" => ((k_here; (with_reducible show wpAny _ _ (call (Value.builtin _) [Value.ref _, _]) _ _ _); k_dflt (refine' append_K ?k1 ?k2 ?k3 ?_ ?z; (case k1 => k_asm); (case k2 => k_asm); (case k3 => k_upd); (case z => exact Nat.le_of_ble_eq_true rfl); k_whole); intro h' F' N'; (try k_sweep)))
  k_with "m:call ref" => ((k_here; k_dflt (k_extra "call ref")))
  k_with "m:cl off1" => (first | exact List.forall_mem_nil _ | exact OwnOff.ne (by assumption) (by simp) | (refine List.forall_mem_cons.mpr ⟨?_, ?_⟩ <;> walk_at "cl off1") | k_ne)
  k_with "m:cl off" => ((unfold Off; walk_at "cl off1"))
  k_with "m:cl mem" => (first | exact List.forall_mem_nil _ | (refine List.forall_mem_cons.mpr ⟨by k_mem, ?_⟩; walk_at "cl mem") | (intro p9 h9; kst_mem))
  k_with "m:cl all" => (((try simp only [List.cons_append, List.nil_append, List.append_nil]); walk_at "cl mem"))
  k_with "m:execs cons" => ((k_here; (with_reducible refine tok_add ?_); intro tk; (try dsimp only); (try k_fold)))
  k_with "m:storeName" => ((k_here; first | ((with_reducible refine tok_sp ?_); intro t9) | ((with_reducible refine tok_st ?_); intro t9)))
  k_with "m:cl enterCW" => (((refine wpAny_call ?_); k_dflt (refine' code_defCW ?k1 ?k2 ?k3 ?k4 ?kO ?k5 ?kA ?kF ?kK ?k6 ?k7 ?k8 ?k9 ?kB ?kD ?_ ?c2 ?c3 ?c4; (case kA => exact rfl); (case kF => exact rfl); (case kK => assumption); (case k1 => k_asm); (case k2 => k_asm); (case k3 => k_asm); (case k4 => k_asm); (case kO => k_asm); (case k5 => k_asm); (case k6 => k_is); (case k7 => k_is); (case k8 => ktr_room); (case k9 => first | exact BindsTo.of_eq rfl | exact binds_K (by k_in) rfl (by k_is) rfl rfl rfl | (refine' kp_binds ?kx ?ke; (case kx => k_in); (case ke => exact fun _ => rfl))); (case kB => exact rfl); (case kD => decide +kernel); (case c2 => exact rfl); (case c3 => exact rfl); (case c4 => exact rfl); k_whole; intro g' L' h' tk' cells' kg' FG' F' N' Y' B' X' T' l1 lim'; (try k_lt l1); k_cells Y'; (try simp only [List.cons_append, List.nil_append] at N'); (try dsimp only); (try k_fold))))
  k_with "m:getMethod ref" => ((k_here; first | ((with_reducible show wpAny _ _ (getMethod (Value.ref 124) _ _) _ _ _); k_dflt (refine' search_M124 ?X ?_; (case X => k_in))) | ((with_reducible show wpAny _ _ (getMethod (Value.ref 129) _ _) _ _ _); k_dflt (refine' search_M129 ?X ?_; (case X => k_in)))))
  k_with "m:call builtin:re.Pattern.search" => ((k_here; first | ((with_reducible show wpAny _ _ (call _ [Value.ref 124, _]) _ _ _); k_dflt (refine' search_K124 ?X ?o ?_; (case X => k_in); (case o => (k_extra "ok")))) | ((with_reducible show wpAny _ _ (call _ [Value.ref 129, _]) _ _ _); k_dflt (refine' search_K129 ?X ?o ?_; (case X => k_in); (case o => (k_extra "ok"))))))
  k_with "m:call builtin:str.lower" => ((k_here; k_dflt (refine SCL.lower (Nat.le_trans (nm_len (by (k_extra "nrng"))) (by decide)) (fun _ => ?_))))
  k_with "m:CompSrcT" => ((k_here; k_dflt (k_extra "comp")))
  k_with "m:subscriptTail Name Constant ref int" => ((k_here; k_dflt (k_extra "tup")))
  k_with "nrng" => (first | exact hr | exact hys _ kMem3)
  k_with "ok" => (with_reducible exact ok_low hr)
  k_with "tup" => (first | (with_reducible show wpAny _ _ (subscriptTail _ _ _ (Value.int 0 _)) _ _ _); refine tup0 (Fr.keep (by k_asm) _ _ (keepG _ hat3)) ?_ | (with_reducible show wpAny _ _ (subscriptTail _ _ _ (Value.int 1 _)) _ _ _); refine tup1 (Fr.keep (by k_asm) _ _ (keepG _ hat3)) ?_)
  k_with "comp" => ((refine' LCt.CompSrcT.ledger (its := tvs.toArray) ?q1 ?q2 ?q3 ?q4 ?q5 ?q6); (case q1 => (with_unfolding_all rfl)); (case q2 => k_asm); (case q3 => k_asm); (case q4 => k_mem); (case q5 => ((have e9 := kDat.length); (rw [List.length_map] at e9); rw [List.size_toArray, sizeLine_eq]; omega)); intro g'; (refine' comp_gen (ks := ys) (ElT tl) (fun k => mateF k r) ZW ElW ?w1 ?w2 ?w3 ?w4 ?w5 ?w6 ?w7); (case w1 => ((have e9 := kDat.length); (rw [List.length_map] at e9); rw [List.size_toArray]; exact e9.symm)); (case w2 => (exact pt_at kDat)); (case w3 => exact zw0); (case w4 => exact zw1); (case w5 => (exact .inr ⟨_, by k_mem, rfl, _, rfl⟩)); (case' w6 => intro k3 v3 I3 oI3 C3 oC3 D3 m3 zs3 l3 h3 tk3 E3 kM3 kMem3 kEl3 kZ3 kC3 kx3 F3 N3 kOff3 kNe3; (obtain ⟨a3, t3, u3, n3, e3, hat3⟩ := kEl3); subst e3; (try dsimp only)); (case' w7 => intro zsm kZm; (try dsimp only)))
  k_steps
  · refine' cl_end hret N (by k_asm) (by k_asm) ?hn1 ⟨_, _, rfl, kZm, rfl⟩
    case hn1 => walk_at "cl mem"
  · exact tel (by k_asm) (by k_asm) (fun q hq => hq) ⟨mate_t (by assumption), _, rfl⟩
  · exact tel (by k_asm) (by k_asm) (fun q hq => hq) (first_f (by first | exact mate_f (by assumption) | exact mate_g (by assumption)))

end
section
theorem rows_a38 : True := by
  k_with_none
  k_with "m:cl enter" => (((refine wpAny_call ?_); k_dflt (refine' code_defV ?k1 ?k2 ?k3 ?k4 ?kO ?k5 ?kA ?kF ?kK ?k6 ?k7 ?k8 ?k9 ?kB ?_ ?c2 ?c3 ?c4 ?c5; (case kA => exact rfl); (case kF => exact rfl); (case kK => assumption); (case k1 => k_asm); (case k2 => k_asm); (case k3 => k_asm); (case k4 => k_asm); (case kO => k_asm); (case k5 => k_asm); (case k6 => k_is); (case k7 => k_is); (case k8 => ktr_room); (case k9 => first | exact BindsTo.of_eq rfl | exact binds_K (by k_in) rfl (by k_is) rfl rfl rfl | (refine' kp_binds ?kx ?ke; (case kx => k_in); (case ke => exact fun _ => rfl))); (case c5 => decide); (case kB => exact locs rfl); (case c2 => exact rfl); (case c3 => exact rfl); (case c4 => exact rfl); k_whole; intro g' L' h' FG' F' N' B' X' T' l1 lim'; (try k_lt l1); (try dsimp only); (try k_fold))))
  k_with "m:cl enterC" => (((refine wpAny_call ?_); k_dflt (refine' code_defCV ?k1 ?k2 ?k3 ?k4 ?kO ?k5 ?kA ?kF ?kK ?k6 ?k7 ?k8 ?k9 ?kB ?kD ?_ ?c2 ?c3 ?c4; (case kA => exact rfl); (case kF => exact rfl); (case kK => assumption); (case k1 => k_asm); (case k2 => k_asm); (case k3 => k_asm); (case k4 => k_asm); (case kO => k_asm); (case k5 => k_asm); (case k6 => k_is); (case k7 => k_is); (case k8 => ktr_room); (case k9 => first | exact BindsTo.of_eq rfl | exact binds_K (by k_in) rfl (by k_is) rfl rfl rfl | (refine' kp_binds ?kx ?ke; (case kx => k_in); (case ke => exact fun _ => rfl))); (case kB => exact rfl); (case kD => decide +kernel); (case c2 => exact rfl); (case c3 => exact rfl); (case c4 => exact rfl); k_whole; intro g' L' h' tk' cells' FG' F' N' Y' B' X' T' l1 lim'; (try k_lt l1); k_cells Y'; (try simp only [List.cons_append, List.nil_append] at N'); (try dsimp only); (try k_fold))))
  k_with "m:cl sub" => (first | exact fun _ h => h | exact List.forall_mem_nil _ | kcj_all)
  k_with "m:cl end" => ((refine' cl_end ?h ?N ?F ?N2 ?_ ?_; (case h => assumption); (case N => assumption); (case F => k_asm); (case N2 => k_asm); rotate_left))
  k_with "m:cl int" => ((refine' cl_end ?h ?N ?F ?N2 ?hn (r_int ?_); (case h => assumption); (case N => assumption); (case F => k_asm); (case N2 => k_asm); (case hn => walk_at "cl sub")))
  k_with "m:cl str" => ((refine' cl_end ?h ?N ?F ?N2 ?hn (r_str ?_); (case h => assumption); (case N => assumption); (case F => k_asm); (case N2 => k_asm); (case hn => walk_at "cl sub")))
  k_with "m:cl bool" => ((refine' cl_end ?h ?N ?F ?N2 ?hn (r_bool ?_); (case h => assumption); (case N => assumption); (case F => k_asm); (case N2 => k_asm); (case hn => walk_at "cl sub")))
  k_with "m:call builtin:list.append" => ((k_here; (with_reducible show wpAny _ _ (call (Value.builtin _) [Value.ref _, _]) _ _ _); k_dflt (refine' append_K ?k1 ?k2 ?k3 ?_ ?z; (case k1 => k_asm); (case k2 => k_asm); (case k3 => k_upd); (case z => exact Nat.le_of_ble_eq_true rfl); k_whole); intro h' F' N'; (try k_sweep)))
  k_with "m:call ref" => ((k_here; k_dflt (k_extra "call ref")))
  k_with "m:cl off1" => (first | exact List.forall_mem_nil _ | exact OwnOff.ne (by assumption) (by simp) | (refine List.forall_mem_cons.mpr ⟨?_, ?_⟩ <;> walk_at "cl off1") | k_ne)
  k_with "m:cl off" => ((unfold Off; walk_at "cl off1"))
  k_with "m:cl mem" => (first | exact List.forall_mem_nil _ | (refine List.forall_mem_cons.mpr ⟨by k_mem, ?_⟩; walk_at "cl mem") | (intro p9 h9; kst_mem))
  k_with "m:cl all" => (((try simp only [List.cons_append, List.nil_append, List.append_nil]); walk_at "cl mem"))
  k_with "m:execs cons" => ((k_here; (with_reducible refine tok_add ?_); intro tk; (try dsimp only); (try k_fold)))
  k_with "m:storeName" => ((k_here; first | ((with_reducible refine tok_sp ?_); intro t9) | ((with_reducible refine tok_st ?_); intro t9)))
  trivial
theorem mof {k : Int} {l : List Int} {f : Int → Bool} (h : k ∈ l.filter f) : k ∈ l := (List.mem_filter.mp h).1
theorem drop2 {h₀ h : Heap} {L : Addr} {p v : Addr × Obj} {r : List (Addr × Obj)} (N : News h₀ L h (p :: v :: r)) : News h₀ L h (p :: r) := fun q hq => N q (by
  rcases List.mem_cons.mp hq with rfl | hq
  · exact List.mem_cons_self
  · exact List.mem_cons_of_mem _ (List.mem_cons_of_mem _ hq))
local macro_rules | `(tactic| k_room) => `(tactic| ktr_room)
theorem rows_a39 : True := by
  k_with_none
  k_with "m:cl enter" => (((refine wpAny_call ?_); k_dflt (refine' code_defV ?k1 ?k2 ?k3 ?k4 ?kO ?k5 ?kA ?kF ?kK ?k6 ?k7 ?k8 ?k9 ?kB ?_ ?c2 ?c3 ?c4 ?c5; (case kA => exact rfl); (case kF => exact rfl); (case kK => assumption); (case k1 => k_asm); (case k2 => k_asm); (case k3 => k_asm); (case k4 => k_asm); (case kO => k_asm); (case k5 => k_asm); (case k6 => k_is); (case k7 => k_is); (case k8 => ktr_room); (case k9 => first | exact BindsTo.of_eq rfl | exact binds_K (by k_in) rfl (by k_is) rfl rfl rfl | (refine' kp_binds ?kx ?ke; (case kx => k_in); (case ke => exact fun _ => rfl))); (case c5 => decide); (case kB => exact locs rfl); (case c2 => exact rfl); (case c3 => exact rfl); (case c4 => exact rfl); k_whole; intro g' L' h' FG' F' N' B' X' T' l1 lim'; (try k_lt l1); (try dsimp only); (try k_fold))))
  k_with "m:cl enterC" => (((refine wpAny_call ?_); k_dflt (refine' code_defCV ?k1 ?k2 ?k3 ?k4 ?kO ?k5 ?kA ?kF ?kK ?k6 ?k7 ?k8 ?k9 ?kB ?kD ?_ ?c2 ?c3 ?c4; (case kA => exact rfl); (case kF => exact rfl); (case kK => assumption); (case k1 => k_asm); (case k2 => k_asm); (case k3 => k_asm); (case k4 => k_asm); (case kO => k_asm); (case k5 => k_asm); (case k6 => k_is); (case k7 => k_is); (case k8 => ktr_room); (case k9 => first | exact BindsTo.of_eq rfl | exact binds_K (by k_in) rfl (by k_is) rfl rfl rfl | (refine' kp_binds ?kx ?ke; (case kx => k_in); (case ke => exact fun _ => rfl))); (case kB => exact rfl); (case kD => decide +kernel); (case c2 => exact rfl); (case c3 => exact rfl); (case c4 => exact rfl); k_whole; intro g' L' h' tk' cells' FG' F' N' Y' B' X' T' l1 lim'; (try k_lt l1); k_cells Y'; (try simp only [List.cons_append, List.nil_append] at N'); (try dsimp only); (try k_fold))))
  k_with "m:cl sub" => (first | exact fun _ h => h | exact List.forall_mem_nil _ | kcj_all)
  k_with "m:cl end" => ((refine' cl_end ?h ?N ?F ?N2 ?_ ?_; (case h => assumption); (case N => assumption); (case F => k_asm); (case N2 => k_asm); rotate_left))
  k_with "m:cl int" => ((refine' cl_end ?h ?N ?F ?N2 ?hn (r_int ?_); (case h => assumption); (case N => assumption); (case F => k_asm); (case N2 => k_asm); (case hn => walk_at "cl sub")))
  k_with "m:cl str" => ((refine' cl_end ?h ?N ?F ?N2 ?hn (r_str ?_); (case h => assumption); (case N => assumption); (case F => k_asm); (case N2 => k_asm); (case hn => walk_at "cl sub")))
  k_with "m:cl bool" => ((refine' cl_end ?h ?N ?F ?N2 ?hn (r_bool ?_); (case h => assumption); (case N => assumption); (case F => k_asm); (case N2 => k_asm); (case hn => walk_at "cl sub")))
  k_with "m:call builtin:list.append" => ((k_here; (with_reducible show wpAny _ _ (call (Value.builtin _) [Value.ref _, _]) _ _ _); k_dflt (refine' append_K ?k1 ?k2 ?k3 ?_ ?z; (case k1 => k_asm); (case k2 => k_asm); (case k3 => k_upd); (case z => exact Nat.le_of_ble_eq_true rfl); k_whole); intro h' F' N'; (try k_sweep)))
  k_with "m:call ref" => ((k_here; k_dflt (k_extra "call ref")))
  k_with "m:cl off1" => (first | exact List.forall_mem_nil _ | exact OwnOff.ne (by assumption) (by simp) | (refine List.forall_mem_cons.mpr ⟨?_, ?_⟩ <;> walk_at "cl off1") | k_ne)
  k_with "m:cl off" => ((unfold Off; walk_at "cl off1"))
  k_with "m:cl mem" => (first | exact List.forall_mem_nil _ | (refine List.forall_mem_cons.mpr ⟨by k_mem, ?_⟩; walk_at "cl mem") | (intro p9 h9; kst_mem))
  k_with "m:cl all" => (((try simp only [List.cons_append, List.nil_append, List.append_nil]); walk_at "cl mem"))
  k_with "m:execs cons" => ((k_here; (with_reducible refine tok_add ?_); intro tk; (try dsimp only); (try k_fold)))
  k_with "m:storeName" => ((k_here; first | ((with_reducible refine tok_sp ?_); intro t9) | ((with_reducible refine tok_st ?_); intro t9)))
  k_with "m:subscriptTail Name Name ref int" => ((k_here; (with_reducible show wpAny _ _ (subscriptTail _ _ (Value.ref _) (Value.int _ _)) _ _ _); k_dflt (k_extra "item")))
  k_with "m:getMethod ref" => ((k_here; first | ((with_reducible show wpAny _ _ (getMethod (Value.ref 124) _ _) _ _ _); k_dflt (refine' search_M124 ?X ?_; (case X => k_in))) | ((with_reducible show wpAny _ _ (getMethod (Value.ref 129) _ _) _ _ _); k_dflt (refine' search_M129 ?X ?_; (case X => k_in)))))
  k_with "m:call builtin:re.Pattern.search" => ((k_here; first | ((with_reducible show wpAny _ _ (call _ [Value.ref 124, _]) _ _ _); k_dflt (refine' search_K124 ?X ?o ?_; (case X => k_in); (case o => (k_extra "ok")))) | ((with_reducible show wpAny _ _ (call _ [Value.ref 129, _]) _ _ _); k_dflt (refine' search_K129 ?X ?o ?_; (case X => k_in); (case o => (k_extra "ok"))))))
  k_with "m:exec For Name Name cons nil" => ((k_here; (rename Fr _ _ _ _ => lF'); (with_unfolding_all refine' For_turns lF' ?_; k_whole)))
  k_with "m:pyIter ref" => ((k_here; (with_reducible show wpAny _ _ (pyIter (Value.ref _)) (fun it s₂ => TurnsAt _ _ _ _ _ _ _ _ _ it s₂) _ _); k_dflt (k_extra "pyIter ref")))
  k_with "m:call builtin:str.join" => ((k_here; k_dflt (refine join_one (by is_list) (by decide +kernel) (by (k_extra "wlen")) ?_; intro t6 k6; k_whole)))
  k_with "m:call builtin:list.append" => ((k_here; (with_reducible show wpAny _ _ (call (Value.builtin _) [Value.ref _, Value.ref _]) _ _ _); k_dflt (refine' append_K ?k1 (drop2 ?k2) ?k3 ?_ ?z; (case k1 => k_asm); (case k2 => k_asm); (case k3 => k_upd); (case z => (k_extra "alen")); k_whole); intro h' F' N'; (try k_sweep)))
  k_with "m:call builtin:list.append" => ((k_here; (with_reducible show wpAny _ _ (call (Value.builtin _) [Value.ref _, Value.int _ _]) _ _ _); k_dflt (refine' append_K ?k1 (drop3 ?k2) ?k3 ?_ ?z; (case k1 => k_asm); (case k2 => k_asm); (case k3 => k_upd); (case z => (k_extra "alen2")); k_whole); intro h' F' N'; (try k_sweep)))
  k_with "m:call builtin:str.lower" => ((k_here; k_dflt (refine SCL.lower (Nat.le_trans (nm_len (by (k_extra "nrng"))) (by decide)) (fun _ => ?_))))
  k_with "m:eval ListComp" => ((k_here; lct_look; lcg_calm; k_dflt (refine LCt.ListComp_T (F₀ := by k_asm) (by with_unfolding_all rfl) (by decide) (by rfl) (by decide) (by rfl) ?_); k_dflt lct_toSrc))
  k_with "m:CompSrcT" => ((k_here; k_dflt (k_extra "comp")))
  k_with "m:subscriptTail Name Constant ref int" => ((k_here; k_dflt (k_extra "tup")))
  k_with "m:compareOp NotEq ref ref" => ((k_here; k_dflt (k_extra "ne")))
  trivial
theorem ne_s8 {a b c d e f g h : Prop} {D : Addr} {tl : List (Addr × Obj)} (h : a ∧ b ∧ c ∧ d ∧ e ∧ f ∧ g ∧ h ∧ AllLt D tl) : ∀ p ∈ tl, p.1 ≠ D + 1 := fun p hp e => by
  have q : @LT.lt Nat _ p.1 D := kst_ltOf h.2.2.2.2.2.2.2.2 p hp
  have e2 : @Eq Nat p.1 (D + 1) := e
  omega
theorem ne_s9 {a b c d e f g h i : Prop} {D : Addr} {tl : List (Addr × Obj)} (h : a ∧ b ∧ c ∧ d ∧ e ∧ f ∧ g ∧ h ∧ i ∧ AllLt D tl) : ∀ p ∈ tl, p.1 ≠ D + 1 := fun p hp e => by
  have q : @LT.lt Nat _ p.1 D := kst_ltOf h.2.2.2.2.2.2.2.2.2 p hp
  have e2 : @Eq Nat p.1 (D + 1) := e
  omega
theorem ne_s10 {a b c d e f g h i j : Prop} {D : Addr} {tl : List (Addr × Obj)} (h : a ∧ b ∧ c ∧ d ∧ e ∧ f ∧ g ∧ h ∧ i ∧ j ∧ AllLt D tl) : ∀ p ∈ tl, p.1 ≠ D + 1 := fun p hp e => by
  have q : @LT.lt Nat _ p.1 D := kst_ltOf h.2.2.2.2.2.2.2.2.2.2 p hp
  have e2 : @Eq Nat p.1 (D + 1) := e
  omega
theorem ne_s11 {a b c d e f g h i j k : Prop} {D : Addr} {tl : List (Addr × Obj)} (h : a ∧ b ∧ c ∧ d ∧ e ∧ f ∧ g ∧ h ∧ i ∧ j ∧ k ∧ AllLt D tl) : ∀ p ∈ tl, p.1 ≠ D + 1 := fun p hp e => by
  have q : @LT.lt Nat _ p.1 D := kst_ltOf h.2.2.2.2.2.2.2.2.2.2.2 p hp
  have e2 : @Eq Nat p.1 (D + 1) := e
  omega
local macro_rules | `(tactic| k_all) => `(tactic| first | exact ne_s10 (by assumption) | exact ne_s9 (by assumption) | exact ne_s11 (by assumption) | exact ne_s8 (by assumption))
theorem cl_useM {Pre : Heap → Prop} {f : Addr} {dd du : Nat} {vs : List Value} {vx vd vl i g : Addr × Obj} {r : List (Addr × Obj)} {Ret : Addr → Value → List (Addr × Obj) → Prop}
    {dp un : Nat} {gd : Option (List Code)} {cn : Str} {cs : Scope} {a : Addr} {ccd : Value} {cl : List (Str × Addr)} {outer : List Env} {A₀ : Around} {base h₀ : Heap} {L : Addr} {m : Str → Option Value} {s : Shared} {Q E : Value → Shared → Prop}
    (C : ClP w p loose mean mg mb Pre f dd du vs [vx, vd, vl] Ret) (P : Pre s.heap)
    (B : Below A₀ base outer h₀) (CD : Cds base) (F : Fr h₀ L s.heap m) (X : (hd.heap_39 w.params).In h₀) (N : News h₀ L s.heap (i :: g :: vx :: vd :: vl :: r)) (O : Off [vx, vd, vl] (i :: g :: r)) (T : Top p loose mean mg mb h₀) (hk : cs.kind = .function)
    (hd : dp + dd < recursionLimit) (hu : un + du < cLine)
    (ret : ∀ lim v vis' h' tk', Ret lim v vis' → Fr h₀ L h' m → News h₀ L h' (vis' ++ i :: g :: r) → Q v { s with heap := h', toks := tk' }) :
    wpAny (model PySem.Challenge.rw_sn0086_01.row.prog w) (ktrTop dp un gd cn cs L a ccd cl outer) (call (.ref f) vs) Q E s :=
  C (i :: g :: r) dp un gd cn cs a ccd cl outer A₀ base h₀ L m s Q E P B CD F X (fun q hq => N q (by
    simp only [List.cons_append, List.nil_append, List.mem_cons] at hq ⊢
    rcases hq with h | h | h | h | h | h
    · exact .inr (.inr (.inl h))
    · exact .inr (.inr (.inr (.inl h)))
    · exact .inr (.inr (.inr (.inr (.inl h))))
    · exact .inl h
    · exact .inr (.inl h)
    · exact .inr (.inr (.inr (.inr (.inr h)))))) O T hk hd hu (fun v vis' h' tk' R F' N' => ret _ v vis' h' tk' R F' N')
theorem drop3 {h₀ h : Heap} {L : Addr} {a b c : Addr × Obj} {r : List (Addr × Obj)} (N : News h₀ L h (a :: b :: c :: r)) : News h₀ L h r := fun q hq => N q (List.mem_cons_of_mem _ (List.mem_cons_of_mem _ (List.mem_cons_of_mem _ hq)))
theorem far_t {k r : Int} (h : apF k r = 3) : farF k r = true := decide_eq_true h
theorem far_f {k r : Int} (h : ¬ apF k r = 3) : farF k r = false := decide_eq_false h
theorem face_t {ys : List Int} {r : Int} (h : ¬ (((ys.filter fun k => mateF k r).filter fun k => farF k r).map wordF = [])) : faceF ys r = true := decide_eq_true h
theorem face_f {ys : List Int} {r : Int} (h : ((ys.filter fun k => mateF k r).filter fun k => farF k r).map wordF = []) : faceF ys r = false := decide_eq_false fun n => n h
theorem face_t' {ys : List Int} {r : Int} (h : (!decide (((ys.filter fun k => mateF k r).filter fun k => farF k r).map wordF = [])) = true) : faceF ys r = true := face_t (by simpa using h)
theorem face_f' {ys : List Int} {r : Int} (h : ¬ (!decide (((ys.filter fun k => mateF k r).filter fun k => farF k r).map wordF = [])) = true) : faceF ys r = false := face_f (by simpa using h)
theorem flt_t {f : Int → Bool} {pre : List Int} {k : Int} (h : f k = true) : pre.filter f ++ [k] = (pre ++ [k]).filter f := by rw [List.filter_append, List.filter_cons, h]; rfl
theorem flt_f {f : Int → Bool} {pre : List Int} {k : Int} (h : f k = false) : pre.filter f = (pre ++ [k]).filter f := by rw [List.filter_append, List.filter_cons, h]; simp
theorem fr_col {h₀ h : Heap} {L : Addr} {y : PySem.Str} {v u : Option Value} {m : PySem.Str → Option Value} (F : Fr h₀ L h (fun z => if z = y then v else (fun z => if z = y then u else m z) z)) : Fr h₀ L h (fun z => if z = y then v else m z) := by
  have e : (fun z => if z = y then v else (fun z => if z = y then u else m z) z) = fun z => if z = y then v else m z := by
    funext z
    by_cases hz : z = y
    · simp [hz]
    · simp [hz]
  rw [e] at F; exact F
theorem face_td {ys : List Int} {r : Int} (h : decide (((ys.filter fun k => mateF k r).filter fun k => farF k r).map wordF = []) = false) : faceF ys r = true := face_t (of_decide_eq_false h)
theorem face_fd {ys : List Int} {r : Int} (h : decide (((ys.filter fun k => mateF k r).filter fun k => farF k r).map wordF = []) = true) : faceF ys r = false := face_f (of_decide_eq_true h)
theorem far_b {k r : Int} (h : (apF k r == 3) = true) : farF k r = true := far_t (beq_iff_eq.mp h)
theorem far_n {k r : Int} (h : (apF k r == 3) = false) : farF k r = false := far_f fun e => by rw [beq_iff_eq.mpr e] at h; cases h
theorem t2_endA {y : PySem.Str} {h₀ : Heap} {Q : Flow → Shared → Prop} {L f cT : Addr} {oT' : Obj} {fx fy tl all : List (Addr × Obj)} {m : PySem.Str → Option Value} {ys pre gl : List Int} {k k' : Int} {t : Tok} {fvs : List Value} {it : Addr × Obj} {nn : Nat} {v u : Option Value} {h' : Heap} {tk : Nat} {s₁ : Shared}
    (F : Fr h₀ L h' (fun z => if z = y then u else m z)) (N : News h₀ L h' all) (hi : IntsAre fvs gl) (hg : gl ++ [k'] = (pre ++ [k]).filter (faceF ys))
    (hs : ∀ q ∈ it :: (f, listOf (fvs.toArray.push (.int k' t)) nn) :: (fx ++ (cT, oT') :: fy), q ∈ all) (ht : ∀ q ∈ tl, q ∈ all) (hc : oT'.data = .cell v) :
    CfPost h₀ L (W2 f cT fx fy) (M2 y m) (Inv2 ys tl (pre ++ [k])) (f :: (fx.map (·.1) ++ cT :: fy.map (·.1))) tl it s₁ Q .next { s₁ with heap := h', toks := tk } :=
  t2_end F N (hi.append (.cons k' t .nil)) hg (by
    have e : listOf (fvs ++ [Value.int k' t]).toArray nn = listOf (fvs.toArray.push (.int k' t)) nn := by simp
    rw [e]; exact hs) ht hc
theorem words_ok {l : List Int} (h : ∀ k ∈ l, 0 ≤ k ∧ k < 8) : AllOk (l.map wordF) := fun x hx => by
  obtain ⟨k, hk, rfl⟩ := List.mem_map.mp hx
  have := h k hk
  have e : k = 0 ∨ k = 1 ∨ k = 2 ∨ k = 3 ∨ k = 4 ∨ k = 5 ∨ k = 6 ∨ k = 7 := by omega
  rcases e with e | e | e | e | e | e | e | e <;> subst e <;> decide +kernel
set_option maxHeartbeats 4000000 in
theorem facing_cl (wl rl yl : Addr) (wvs rvs yvs : List Value) (wn rn yn : Nat) (rs ys : List Int) (hw : StrsAre wvs wordL) (hr : IntsAre rvs rs) (hr8 : rs.length ≤ 8) (hrs : ∀ t ∈ rs, 0 ≤ t ∧ t < 8) (hy : IntsAre yvs ys) (hy8 : ys.length ≤ 8) (hys : ∀ t ∈ ys, 0 ≤ t ∧ t < 8) (h12 : @Ne Nat wl rl) (h13 : @Ne Nat wl yl) (h23 : @Ne Nat rl yl) :
    Cl w p loose mean mg mb 314 30 200 [.ref wl, .ref rl, .ref yl] [(wl, listOf wvs.toArray wn), (rl, listOf rvs.toArray rn), (yl, listOf yvs.toArray yn)] (RInts [(wl, listOf wvs.toArray wn), (rl, listOf rvs.toArray rn), (yl, listOf yvs.toArray yn)] (rs.filter (faceF ys))) := by
  unfold Cl
  k_fill
  intro rest dp un gd cn cs a₀ ccd cl outer A₀ base h₀ L m s Q E B CD F X N O T hk hd hu hret
  walk_at "cl enterC"
  k_with_none
  k_with "m:cl enter" => (((refine wpAny_call ?_); k_dflt (refine' code_defV ?k1 ?k2 ?k3 ?k4 ?kO ?k5 ?kA ?kF ?kK ?k6 ?k7 ?k8 ?k9 ?kB ?_ ?c2 ?c3 ?c4 ?c5; (case kA => exact rfl); (case kF => exact rfl); (case kK => assumption); (case k1 => k_asm); (case k2 => k_asm); (case k3 => k_asm); (case k4 => k_asm); (case kO => k_asm); (case k5 => k_asm); (case k6 => k_is); (case k7 => k_is); (case k8 => ktr_room); (case k9 => first | exact BindsTo.of_eq rfl | exact binds_K (by k_in) rfl (by k_is) rfl rfl rfl | (refine' kp_binds ?kx ?ke; (case kx => k_in); (case ke => exact fun _ => rfl))); (case c5 => decide); (case kB => exact locs rfl); (case c2 => exact rfl); (case c3 => exact rfl); (case c4 => exact rfl); k_whole; intro g' L' h' FG' F' N' B' X' T' l1 lim'; (try k_lt l1); (try dsimp only); (try k_fold))))
  k_with "m:cl enterC" => (((refine wpAny_call ?_); k_dflt (refine' code_defCV ?k1 ?k2 ?k3 ?k4 ?kO ?k5 ?kA ?kF ?kK ?k6 ?k7 ?k8 ?k9 ?kB ?kD ?_ ?c2 ?c3 ?c4; (case kA => exact rfl); (case kF => exact rfl); (case kK => assumption); (case k1 => k_asm); (case k2 => k_asm); (case k3 => k_asm); (case k4 => k_asm); (case kO => k_asm); (case k5 => k_asm); (case k6 => k_is); (case k7 => k_is); (case k8 => ktr_room); (case k9 => first | exact BindsTo.of_eq rfl | exact binds_K (by k_in) rfl (by k_is) rfl rfl rfl | (refine' kp_binds ?kx ?ke; (case kx => k_in); (case ke => exact fun _ => rfl))); (case kB => exact rfl); (case kD => decide +kernel); (case c2 => exact rfl); (case c3 => exact rfl); (case c4 => exact rfl); k_whole; intro g' L' h' tk' cells' FG' F' N' Y' B' X' T' l1 lim'; (try k_lt l1); k_cells Y'; (try simp only [List.cons_append, List.nil_append] at N'); (try dsimp only); (try k_fold))))
  k_with "m:cl sub" => (first | exact fun _ h => h | exact List.forall_mem_nil _ | kcj_all)
  k_with "m:cl end" => ((refine' cl_end ?h ?N ?F ?N2 ?_ ?_; (case h => assumption); (case N => assumption); (case F => k_asm); (case N2 => k_asm); rotate_left))
  k_with "m:cl int" => ((refine' cl_end ?h ?N ?F ?N2 ?hn (r_int ?_); (case h => assumption); (case N => assumption); (case F => k_asm); (case N2 => k_asm); (case hn => walk_at "cl sub")))
  k_with "m:cl str" => ((refine' cl_end ?h ?N ?F ?N2 ?hn (r_str ?_); (case h => assumption); (case N => assumption); (case F => k_asm); (case N2 => k_asm); (case hn => walk_at "cl sub")))
  k_with "m:cl bool" => ((refine' cl_end ?h ?N ?F ?N2 ?hn (r_bool ?_); (case h => assumption); (case N => assumption); (case F => k_asm); (case N2 => k_asm); (case hn => walk_at "cl sub")))
  k_with "m:call builtin:list.append" => ((k_here; (with_reducible show wpAny _ _ (call (Value.builtin _) [Value.ref _, _]) _ _ _); k_dflt (refine' append_K ?k1 ?k2 ?k3 ?_ ?z; (case k1 => k_asm); (case k2 => k_asm); (case k3 => k_upd); (case z => exact Nat.le_of_ble_eq_true rfl); k_whole); intro h' F' N'; (try k_sweep)))
  k_with "m:call ref" => ((k_here; k_dflt (k_extra "call ref")))
  k_with "m:cl off1" => (first | exact List.forall_mem_nil _ | exact OwnOff.ne (by assumption) (by simp) | (refine List.forall_mem_cons.mpr ⟨?_, ?_⟩ <;> walk_at "cl off1") | k_ne)
  k_with "m:cl off" => ((unfold Off; walk_at "cl off1"))
  k_with "m:cl mem" => (first | exact List.forall_mem_nil _ | (refine List.forall_mem_cons.mpr ⟨by k_mem, ?_⟩; walk_at "cl mem") | (intro p9 h9; kst_mem))
  k_with "m:cl all" => (((try simp only [List.cons_append, List.nil_append, List.append_nil]); walk_at "cl mem"))
  k_with "m:execs cons" => ((k_here; (with_reducible refine tok_add ?_); intro tk; (try dsimp only); (try k_fold)))
  k_with "m:storeName" => ((k_here; first | ((with_reducible refine tok_sp ?_); intro t9) | ((with_reducible refine tok_st ?_); intro t9)))
  k_with "m:subscriptTail Name Name ref int" => ((k_here; (with_reducible show wpAny _ _ (subscriptTail _ _ (Value.ref _) (Value.int _ _)) _ _ _); k_dflt (k_extra "item")))
  k_with "m:getMethod ref" => ((k_here; first | ((with_reducible show wpAny _ _ (getMethod (Value.ref 124) _ _) _ _ _); k_dflt (refine' search_M124 ?X ?_; (case X => k_in))) | ((with_reducible show wpAny _ _ (getMethod (Value.ref 129) _ _) _ _ _); k_dflt (refine' search_M129 ?X ?_; (case X => k_in)))))
  k_with "m:call builtin:re.Pattern.search" => ((k_here; first | ((with_reducible show wpAny _ _ (call _ [Value.ref 124, _]) _ _ _); k_dflt (refine' search_K124 ?X ?o ?_; (case X => k_in); (case o => (k_extra "ok")))) | ((with_reducible show wpAny _ _ (call _ [Value.ref 129, _]) _ _ _); k_dflt (refine' search_K129 ?X ?o ?_; (case X => k_in); (case o => (k_extra "ok"))))))
  k_with "m:exec For Name Name cons nil" => ((k_here; (rename Fr _ _ _ _ => lF'); (with_unfolding_all refine' For_turns lF' ?_; k_whole)))
  k_with "m:pyIter ref" => ((k_here; (with_reducible show wpAny _ _ (pyIter (Value.ref _)) (fun it s₂ => TurnsAt _ _ _ _ _ _ _ _ _ it s₂) _ _); k_dflt (k_extra "pyIter ref")))
  k_with "m:call builtin:str.join" => ((k_here; k_dflt (refine join_one (by is_list) (by decide +kernel) (by (k_extra "wlen")) ?_; intro t6 k6; k_whole)))
  k_with "m:call builtin:list.append" => ((k_here; (with_reducible show wpAny _ _ (call (Value.builtin _) [Value.ref _, Value.ref _]) _ _ _); k_dflt (refine' append_K ?k1 (drop2 ?k2) ?k3 ?_ ?z; (case k1 => k_asm); (case k2 => k_asm); (case k3 => k_upd); (case z => (k_extra "alen")); k_whole); intro h' F' N'; (try k_sweep)))
  k_with "m:call builtin:list.append" => ((k_here; (with_reducible show wpAny _ _ (call (Value.builtin _) [Value.ref _, Value.int _ _]) _ _ _); k_dflt (refine' append_K ?k1 (drop3 ?k2) ?k3 ?_ ?z; (case k1 => k_asm); (case k2 => k_asm); (case k3 => k_upd); (case z => (k_extra "alen2")); k_whole); intro h' F' N'; (try k_sweep)))
  k_with "m:call builtin:str.lower" => ((k_here; k_dflt (refine SCL.lower (Nat.le_trans (nm_len (by (k_extra "nrng"))) (by decide)) (fun _ => ?_))))
  k_with "m:eval ListComp" => ((k_here; lct_look; lcg_calm; k_dflt (refine LCt.ListComp_T (F₀ := by k_asm) (by with_unfolding_all rfl) (by decide) (by rfl) (by decide) (by rfl) ?_); k_dflt lct_toSrc))
  k_with "m:CompSrcT" => ((k_here; k_dflt (k_extra "comp")))
  k_with "m:subscriptTail Name Constant ref int" => ((k_here; k_dflt (k_extra "tup")))
  k_with "m:compareOp NotEq ref ref" => ((k_here; k_dflt (k_extra "ne")))
  k_with "item" => (refine item_word (by is_list) hw (by (k_extra "rng")) ?_; intro t9; k_whole)
  k_with "rng" => (first | exact hys _ kMem | exact hrs _ kMem2)
  k_with "nrng" => (first | exact hrs _ kMem2 | exact hys _ kMem3)
  k_with "call ref" => (refine' cl_use0 (name_clW _ ?hv _) ?k1 ?kC ?k2 ?k3 ?k4 ?k5 ?kK ?kd ?ku ?_; (case k1 => k_asm); (case kC => assumption); (case k2 => k_asm); (case k3 => k_asm); (case k4 => k_asm); (case hv => first | exact hys _ kMem | exact hrs _ kMem2); (case k5 => k_asm); (case kK => first | exact rfl | assumption); (case kd => ktr_room); (case ku => ktr_units); intro lim9 v9 n9 h9 tk9 lt9 R9 F9 N9; (obtain ⟨e9, t9, e9'⟩ := R9); subst e9; subst e9'; (try dsimp only [List.nil_append] at N9); (try dsimp only); (try k_fold))
  k_with "call ref" => (refine' cl_useM (getall_cl _ _ _ _ tvs _ tl ys kN2 _ _ ?hk0 kDat hy8 hys (hrs _ kMem2) ?hof ?hxd ?hdl) ?hP ?k1 ?kC ?k2 ?k3 ?k4 ?kO ?k5 ?kK ?kd ?ku ?_; (case k1 => k_asm); (case kC => assumption); (case k2 => k_asm); (case k3 => k_asm); (case k4 => k_asm); (case hk0 => exact rfl); (case hof => exact (fun p hp b hb => kOff2 p hp b (by (simp only [List.mem_cons, List.not_mem_nil, or_false] at hb ⊢); (rcases hb with h | h | h <;> subst h <;> simp)))); (case hxd => omega); (case hdl => omega); (case hP => exact (fun q hq => News.get (by k_asm) (by repeat' (first | exact hq | refine List.Mem.tail _ ?_)))); (case kO => walk_at "cl off"); (case k5 => k_asm); (case kK => first | exact rfl | assumption); (case kd => ktr_room); (case ku => ktr_units); intro lim9 v9 n9 h9 tk9 R9 F9 N9; (obtain ⟨D9, zsm, e9, kZm, e9'⟩ := R9); subst e9; subst e9'; (try simp only [List.cons_append, List.nil_append] at N9); (try dsimp only); (try k_fold))
  k_with "call ref" => (refine' cl_use0 (apart_clW k4 kN2 (hys _ (mof kMem4)) (hrs _ kMem2) _ _) ?k1 ?kC ?k2 ?k3 ?k4 ?k5 ?kK ?kd ?ku ?_; (case k1 => k_asm); (case kC => assumption); (case k2 => k_asm); (case k3 => k_asm); (case k4 => k_asm); (case k5 => k_asm); (case kK => first | exact rfl | assumption); (case kd => ktr_room); (case ku => ktr_units); intro lim9 v9 n9 h9 tk9 lt9 R9 F9 N9; (obtain ⟨e9, t9, e9'⟩ := R9); subst e9; subst e9'; (try dsimp only [List.nil_append] at N9); (try dsimp only); (try k_fold))
  k_with "wlen" => (exact word_len (hys _ kMem))
  k_with "alen" => (have e9 := congrArg List.length kE; (rw [List.length_append, List.length_cons] at e9); rw [List.size_toArray, sizeLine_eq]; omega)
  k_with "alen2" => (have e9 := congrArg List.length kE2; (rw [List.length_append, List.length_cons] at e9); rw [List.size_toArray, sizeLine_eq]; omega)
  k_with "ok" => (first | with_reducible exact ok_low (hrs _ kMem2) | with_reducible exact ok_name (hys _ kMem) | with_reducible exact ok_word (hys _ kMem))
  k_with "comp" => ((refine' LCt.CompSrcT.ledger (its := zsm.toArray) ?q1 ?q2 ?q3 ?q4 ?q5 ?q6); (case q1 => (with_unfolding_all rfl)); (case q2 => k_asm); (case q3 => k_asm); (case q4 => k_mem); (case q5 => ((have e9 := StrsAre.length kZm); (rw [List.length_map] at e9); (have e8 := List.length_filter_le (fun k => mateF k kN2) ys); rw [List.size_toArray, sizeLine_eq]; omega)); intro g'; (refine' comp_gen (ks := ys.filter fun k => mateF k kN2) ElW (fun k => farF k kN2) ZW ElW ?w1 ?w2 ?w3 ?w4 ?w5 ?w6 ?w7); (case w1 => ((have e9 := StrsAre.length kZm); (rw [List.length_map] at e9); rw [List.size_toArray]; exact e9.symm)); (case w2 => exact pw_at kZm); (case w3 => exact zw0); (case w4 => exact zw1); (case w5 => exact .inr ⟨_, by k_mem, rfl, _, rfl⟩); (case' w6 => intro k4 v4 I4 oI4 C4 oC4 D4 m4 zs4 l4 h4 tk4 E4 kM4 kMem4 kEl4 kZ4 kC4 kx4 F4 N4 kOff4 kNe4; (obtain ⟨u4, e4⟩ := kEl4); subst e4; (try dsimp only)); (case' w7 => intro zsf kZf; (try dsimp only)))
  k_with "ne" => ((refine es_ne (ys := []) (by is_list) (by is_list) kZf .nil (words_ok fun k hk => hys k (mof (mof hk))) (fun _ h => nomatch h) (by ktr_units) ?_))
  k_with "pyIter ref" => ((refine' loop1 (vs := yvs) (ns := ys) ?g1 ?g2 ?g3 ?g4 ?g5 ?g6 ?g7 ?g8); (case g1 => with_unfolding_all rfl); (case g2 => k_asm); (case g3 => k_asm); (case g4 => exact ⟨_, by assumption⟩); (case g5 => k_mem); (case g6 => exact hy); (case' g7 => intro tvs nn oT9 v1 tl kPre kN post kT h1 tk1 I1 oI1 kM kE kMem kLen kDat kCell kTup kOff kLt1 kF kN1; (k_lt kLt1); (try simp only [List.cons_append, List.nil_append, List.map_cons, List.map_nil] at kN1 kOff); (try dsimp only)); (case' g8 => intro tvs nn oT9 v1 tl h1 tk1 kM kDat kCell kTup kOff kF kN1; (try simp only [List.cons_append, List.nil_append, List.map_cons, List.map_nil] at kN1 kOff); (try dsimp only)))
  k_with "pyIter ref" => ((refine' loop2w (PySem.Str.ofString "mates") (vs := rvs) (ns := rs) (ys := ys) (tl := tl) ?m1 ?m2 ?m3 ?m4 ?m5 ?m6 ?m7 ?m8 ?m9 ?mt ?md); (case m1 => with_unfolding_all rfl); (case m2 => k_asm); (case m3 => k_asm); (case m4 => exact ⟨_, by assumption⟩); (case m5 => k_mem); (case m6 => exact hr); (case m7 => exact kTup); (case m8 => k_all); (case m9 => exact kOff); (case' mt => intro fvs nn2 oT2 v2 u2 kPre2 kN2 t2 kT2 h2 tk2 I2 oI2 kM2 kE2 kMem2 kLen2 kI2 kCell2 kLt2 kF2 kN2' kOff2; (k_lt kLt2); (try dsimp only)); (case' md => intro fvs nn2 oT2 u2 h2 tk2 kM2 kI2 kF2 kN2'; (try dsimp only)))
  k_steps
  · refine' cl_end hret N (by k_asm) (by k_asm) ?hn1 ⟨_, _, _, rfl, kI2, ?le1, rfl⟩
    case hn1 => walk_at "cl mem"
    case le1 => omega
  · refine' t2_end (fr_col ?e1) ?e2 kI2 (flt_f ?e3) ?e4 ?e5 ?e6
    case e1 => k_asm
    case e2 => k_asm
    case e3 => exact face_fd (by assumption)
    case e4 => walk_at "cl mem"
    case e5 => exact fun q hq => by repeat' (first | exact hq | refine List.Mem.tail _ ?_)
    case e6 => assumption
  · try
      refine' append_K ?k1 (drop3 ?k2) ?k3 ?kk ?kz
      case k1 => k_asm
      case k2 => k_asm
      case k3 => k_upd
      case kz => ((have e9 := congrArg List.length kE2); (rw [List.length_append, List.length_cons] at e9); rw [List.size_toArray, sizeLine_eq]; omega)
      intro h8 F8 N8
      k_steps
    refine' t2_endA (fr_col ?f1) ?f2 kI2 (flt_t ?f3) ?f4 ?f5 ?f6
    case f1 => k_asm
    case f2 => k_asm
    case f3 => exact face_td (by assumption)
    case f4 => walk_at "cl mem"
    case f5 => exact fun q hq => by repeat' (first | exact hq | refine List.Mem.tail _ ?_)
    case f6 => assumption
  · exact tel (by k_asm) (by k_asm) (fun q hq => hq) ⟨by first | exact far_t (by assumption) | exact far_b (by assumption) | exact far_t (of_decide_eq_true (by assumption)), _, rfl⟩
  · exact tel (by k_asm) (by k_asm) (fun q hq => hq) (by first | exact far_f (by assumption) | exact far_n (by assumption) | exact far_f (of_decide_eq_false (by assumption)))
  · refine' t1_end ?uu1 ?uu2 ?uu3 ?uu4 ?uu5 ?uu6 kDat ?uu7
    case uu1 => k_asm
    case uu2 => k_asm
    case uu3 => k_mem
    case uu4 => walk_at "cl mem"
    case uu5 => exact fun q hq => by repeat' (first | exact hq | refine List.Mem.tail _ ?_)
    case uu6 => assumption
    case uu7 => (repeat' (first | exact List.forall_mem_nil _ | refine List.forall_mem_cons.mpr ⟨by k_ne, ?_⟩))

end
section
noncomputable def bitF (x k : Int) : Bool := decide (Builtin.bitAnd (x.fdiv (2 ^ k.toNat)) 1 ≠ 0)
noncomputable def dueW (a b : Int) : Int := ([0, 1, 2, 3, 4, 5, 6, 7] : List Int).foldl (fun w l => Builtin.bitOr w (Builtin.bitAnd (closedF a l) (closedF b (7 - l)))) 0
noncomputable def mirF (a b k : Int) : Bool := bitF a k && bitF b (7 - k)
theorem rows_a40 : True := by
  k_with_none
  k_with "m:cl enter" => (((refine wpAny_call ?_); k_dflt (refine' code_defV ?k1 ?k2 ?k3 ?k4 ?kO ?k5 ?kA ?kF ?kK ?k6 ?k7 ?k8 ?k9 ?kB ?_ ?c2 ?c3 ?c4 ?c5; (case kA => exact rfl); (case kF => exact rfl); (case kK => assumption); (case k1 => k_asm); (case k2 => k_asm); (case k3 => k_asm); (case k4 => k_asm); (case kO => k_asm); (case k5 => k_asm); (case k6 => k_is); (case k7 => k_is); (case k8 => ktr_room); (case k9 => first | exact BindsTo.of_eq rfl | exact binds_K (by k_in) rfl (by k_is) rfl rfl rfl | (refine' kp_binds ?kx ?ke; (case kx => k_in); (case ke => exact fun _ => rfl))); (case c5 => decide); (case kB => exact locs rfl); (case c2 => exact rfl); (case c3 => exact rfl); (case c4 => exact rfl); k_whole; intro g' L' h' FG' F' N' B' X' T' l1 lim'; (try k_lt l1); (try dsimp only); (try k_fold))))
  k_with "m:cl enterC" => (((refine wpAny_call ?_); k_dflt (refine' code_defCV ?k1 ?k2 ?k3 ?k4 ?kO ?k5 ?kA ?kF ?kK ?k6 ?k7 ?k8 ?k9 ?kB ?kD ?_ ?c2 ?c3 ?c4; (case kA => exact rfl); (case kF => exact rfl); (case kK => assumption); (case k1 => k_asm); (case k2 => k_asm); (case k3 => k_asm); (case k4 => k_asm); (case kO => k_asm); (case k5 => k_asm); (case k6 => k_is); (case k7 => k_is); (case k8 => ktr_room); (case k9 => first | exact BindsTo.of_eq rfl | exact binds_K (by k_in) rfl (by k_is) rfl rfl rfl | (refine' kp_binds ?kx ?ke; (case kx => k_in); (case ke => exact fun _ => rfl))); (case kB => exact rfl); (case kD => decide +kernel); (case c2 => exact rfl); (case c3 => exact rfl); (case c4 => exact rfl); k_whole; intro g' L' h' tk' cells' FG' F' N' Y' B' X' T' l1 lim'; (try k_lt l1); k_cells Y'; (try simp only [List.cons_append, List.nil_append] at N'); (try dsimp only); (try k_fold))))
  k_with "m:cl sub" => (first | exact fun _ h => h | exact List.forall_mem_nil _ | kcj_all)
  k_with "m:cl end" => ((refine' cl_end ?h ?N ?F ?N2 ?_ ?_; (case h => assumption); (case N => assumption); (case F => k_asm); (case N2 => k_asm); rotate_left))
  k_with "m:cl int" => ((refine' cl_end ?h ?N ?F ?N2 ?hn (r_int ?_); (case h => assumption); (case N => assumption); (case F => k_asm); (case N2 => k_asm); (case hn => walk_at "cl sub")))
  k_with "m:cl str" => ((refine' cl_end ?h ?N ?F ?N2 ?hn (r_str ?_); (case h => assumption); (case N => assumption); (case F => k_asm); (case N2 => k_asm); (case hn => walk_at "cl sub")))
  k_with "m:cl bool" => ((refine' cl_end ?h ?N ?F ?N2 ?hn (r_bool ?_); (case h => assumption); (case N => assumption); (case F => k_asm); (case N2 => k_asm); (case hn => walk_at "cl sub")))
  k_with "m:call builtin:list.append" => ((k_here; (with_reducible show wpAny _ _ (call (Value.builtin _) [Value.ref _, _]) _ _ _); k_dflt (refine' append_K ?k1 ?k2 ?k3 ?_ ?z; (case k1 => k_asm); (case k2 => k_asm); (case k3 => k_upd); (case z => exact Nat.le_of_ble_eq_true rfl); k_whole); intro h' F' N'; (try k_sweep)))
  k_with "m:call ref" => ((k_here; k_dflt (k_extra "call ref")))
  k_with "m:cl off1" => (first | exact List.forall_mem_nil _ | exact OwnOff.ne (by assumption) (by simp) | (refine List.forall_mem_cons.mpr ⟨?_, ?_⟩ <;> walk_at "cl off1") | k_ne)
  k_with "m:cl off" => ((unfold Off; walk_at "cl off1"))
  k_with "m:cl mem" => (first | exact List.forall_mem_nil _ | (refine List.forall_mem_cons.mpr ⟨by k_mem, ?_⟩; walk_at "cl mem") | (intro p9 h9; kst_mem))
  k_with "m:cl all" => (((try simp only [List.cons_append, List.nil_append, List.append_nil]); walk_at "cl mem"))
  k_with "m:execs cons" => ((k_here; (with_reducible refine tok_add ?_); intro tk; (try dsimp only); (try k_fold)))
  k_with "m:storeName" => ((k_here; first | ((with_reducible refine tok_sp ?_); intro t9) | ((with_reducible refine tok_st ?_); intro t9)))
  trivial
theorem pr_at (i : Nat) (v : Value) (h : i < 8) (e : ∃ t, v = .int (0 + (i : Int)) t) : ∃ k, (rangeKs 0 8)[i]? = some k ∧ ElI k v := by
  obtain ⟨t, e⟩ := e
  exact ⟨0 + (i : Int), by simp [rangeKs, h], t, e⟩
theorem bit_t {x k : Int} (h : Builtin.bitAnd (x.fdiv (2 ^ k.toNat)) 1 ≠ 0) : bitF x k = true := decide_eq_true h
theorem bit_f {x k : Int} (h : Builtin.bitAnd (x.fdiv (2 ^ k.toNat)) 1 = 0) : bitF x k = false := decide_eq_false fun n => n h
theorem mir_t {a b k : Int} (h : Builtin.bitAnd (a.fdiv (2 ^ k.toNat)) 1 ≠ 0) (h2 : Builtin.bitAnd (b.fdiv (2 ^ (7 - k).toNat)) 1 ≠ 0) : mirF a b k = true := by unfold mirF; rw [bit_t h, bit_t h2]; rfl
theorem mir_f1 {a b k : Int} (h : Builtin.bitAnd (a.fdiv (2 ^ k.toNat)) 1 = 0) : mirF a b k = false := by unfold mirF; rw [bit_f h]; rfl
theorem mir_f2 {a b k : Int} (h : Builtin.bitAnd (b.fdiv (2 ^ (7 - k).toNat)) 1 = 0) : mirF a b k = false := by unfold mirF; rw [bit_f h, Bool.and_false]
noncomputable def RDue (a b : Int) : Addr → Value → List (Addr × Obj) → Prop := fun _ v n => ∃ D W M ws ms j, v = .ref D ∧ IntsAre ws ((rangeKs 0 8).filter fun k => bitF (dueW a b) k) ∧ IntsAre ms ((rangeKs 0 8).filter fun k => mirF a b k) ∧ n = [(D, ({ cls := .type "tuple", data := .seq #[.ref W, .ref M] j } : Obj)), (W, LCg.lst ws), (M, LCg.lst ms)]
local macro_rules | `(tactic| k_room) => `(tactic| ktr_room)
theorem rows_a41 : True := by
  k_with_none
  k_with "m:cl enter" => (((refine wpAny_call ?_); k_dflt (refine' code_defV ?k1 ?k2 ?k3 ?k4 ?kO ?k5 ?kA ?kF ?kK ?k6 ?k7 ?k8 ?k9 ?kB ?_ ?c2 ?c3 ?c4 ?c5; (case kA => exact rfl); (case kF => exact rfl); (case kK => assumption); (case k1 => k_asm); (case k2 => k_asm); (case k3 => k_asm); (case k4 => k_asm); (case kO => k_asm); (case k5 => k_asm); (case k6 => k_is); (case k7 => k_is); (case k8 => ktr_room); (case k9 => first | exact BindsTo.of_eq rfl | exact binds_K (by k_in) rfl (by k_is) rfl rfl rfl | (refine' kp_binds ?kx ?ke; (case kx => k_in); (case ke => exact fun _ => rfl))); (case c5 => decide); (case kB => exact locs rfl); (case c2 => exact rfl); (case c3 => exact rfl); (case c4 => exact rfl); k_whole; intro g' L' h' FG' F' N' B' X' T' l1 lim'; (try k_lt l1); (try dsimp only); (try k_fold))))
  k_with "m:cl enterC" => (((refine wpAny_call ?_); k_dflt (refine' code_defCV ?k1 ?k2 ?k3 ?k4 ?kO ?k5 ?kA ?kF ?kK ?k6 ?k7 ?k8 ?k9 ?kB ?kD ?_ ?c2 ?c3 ?c4; (case kA => exact rfl); (case kF => exact rfl); (case kK => assumption); (case k1 => k_asm); (case k2 => k_asm); (case k3 => k_asm); (case k4 => k_asm); (case kO => k_asm); (case k5 => k_asm); (case k6 => k_is); (case k7 => k_is); (case k8 => ktr_room); (case k9 => first | exact BindsTo.of_eq rfl | exact binds_K (by k_in) rfl (by k_is) rfl rfl rfl | (refine' kp_binds ?kx ?ke; (case kx => k_in); (case ke => exact fun _ => rfl))); (case kB => exact rfl); (case kD => decide +kernel); (case c2 => exact rfl); (case c3 => exact rfl); (case c4 => exact rfl); k_whole; intro g' L' h' tk' cells' FG' F' N' Y' B' X' T' l1 lim'; (try k_lt l1); k_cells Y'; (try simp only [List.cons_append, List.nil_append] at N'); (try dsimp only); (try k_fold))))
  k_with "m:cl sub" => (first | exact fun _ h => h | exact List.forall_mem_nil _ | kcj_all)
  k_with "m:cl end" => ((refine' cl_end ?h ?N ?F ?N2 ?_ ?_; (case h => assumption); (case N => assumption); (case F => k_asm); (case N2 => k_asm); rotate_left))
  k_with "m:cl int" => ((refine' cl_end ?h ?N ?F ?N2 ?hn (r_int ?_); (case h => assumption); (case N => assumption); (case F => k_asm); (case N2 => k_asm); (case hn => walk_at "cl sub")))
  k_with "m:cl str" => ((refine' cl_end ?h ?N ?F ?N2 ?hn (r_str ?_); (case h => assumption); (case N => assumption); (case F => k_asm); (case N2 => k_asm); (case hn => walk_at "cl sub")))
  k_with "m:cl bool" => ((refine' cl_end ?h ?N ?F ?N2 ?hn (r_bool ?_); (case h => assumption); (case N => assumption); (case F => k_asm); (case N2 => k_asm); (case hn => walk_at "cl sub")))
  k_with "m:call builtin:list.append" => ((k_here; (with_reducible show wpAny _ _ (call (Value.builtin _) [Value.ref _, _]) _ _ _); k_dflt (refine' append_K ?k1 ?k2 ?k3 ?_ ?z; (case k1 => k_asm); (case k2 => k_asm); (case k3 => k_upd); (case z => exact Nat.le_of_ble_eq_true rfl); k_whole); intro h' F' N'; (try k_sweep)))
  k_with "m:call ref" => ((k_here; k_dflt (k_extra "call ref")))
  k_with "m:cl off1" => (first | exact List.forall_mem_nil _ | exact OwnOff.ne (by assumption) (by simp) | (refine List.forall_mem_cons.mpr ⟨?_, ?_⟩ <;> walk_at "cl off1") | k_ne)
  k_with "m:cl off" => ((unfold Off; walk_at "cl off1"))
  k_with "m:cl mem" => (first | exact List.forall_mem_nil _ | (refine List.forall_mem_cons.mpr ⟨by k_mem, ?_⟩; walk_at "cl mem") | (intro p9 h9; kst_mem))
  k_with "m:cl all" => (((try simp only [List.cons_append, List.nil_append, List.append_nil]); walk_at "cl mem"))
  k_with "m:execs cons" => ((k_here; (with_reducible refine tok_add ?_); intro tk; (try dsimp only); (try k_fold)))
  k_with "m:storeName" => ((k_here; first | ((with_reducible refine tok_sp ?_); intro t9) | ((with_reducible refine tok_st ?_); intro t9)))
  k_with "m:eval ListComp" => ((k_here; lct_look; lcg_calm; k_dflt (refine LCt.ListComp_T (F₀ := by k_asm) (by with_unfolding_all rfl) (by decide) (by rfl) (by decide) (by rfl) ?_); k_dflt lct_toSrc))
  k_with "m:exec Assign cons ListComp" => ((k_here; lct_look; lcg_calm; k_dflt (refine LCt.Assign_ListComp_T (F₀ := by k_asm) (by rfl) (by with_unfolding_all rfl) (by with_unfolding_all rfl) (by decide) (by rfl) (by decide) (by rfl) (by rfl) (by rfl) ?_); k_dflt lct_toSrc))
  k_with "m:CompSrcT" => ((k_here; k_dflt (k_extra "comp")))
  trivial
set_option maxHeartbeats 1000000 in
theorem due_cl (a b : Int) (ta tb : Tok) (ha : 0 ≤ a ∧ a < 256) (hb : 0 ≤ b ∧ b < 256) :
    Cl w p loose mean mg mb 326 20 120 [.int a ta, .int b tb] [] (RDue a b) := by
  unfold Cl
  k_fill
  intro rest dp un gd cn cs a₀ ccd cl outer A₀ base h₀ L m s Q E B CD F X N O T hk hd hu hret
  walk_at "cl enterC"
  k_with_none
  k_with "m:cl enter" => (((refine wpAny_call ?_); k_dflt (refine' code_defV ?k1 ?k2 ?k3 ?k4 ?kO ?k5 ?kA ?kF ?kK ?k6 ?k7 ?k8 ?k9 ?kB ?_ ?c2 ?c3 ?c4 ?c5; (case kA => exact rfl); (case kF => exact rfl); (case kK => assumption); (case k1 => k_asm); (case k2 => k_asm); (case k3 => k_asm); (case k4 => k_asm); (case kO => k_asm); (case k5 => k_asm); (case k6 => k_is); (case k7 => k_is); (case k8 => ktr_room); (case k9 => first | exact BindsTo.of_eq rfl | exact binds_K (by k_in) rfl (by k_is) rfl rfl rfl | (refine' kp_binds ?kx ?ke; (case kx => k_in); (case ke => exact fun _ => rfl))); (case c5 => decide); (case kB => exact locs rfl); (case c2 => exact rfl); (case c3 => exact rfl); (case c4 => exact rfl); k_whole; intro g' L' h' FG' F' N' B' X' T' l1 lim'; (try k_lt l1); (try dsimp only); (try k_fold))))
  k_with "m:cl enterC" => (((refine wpAny_call ?_); k_dflt (refine' code_defCV ?k1 ?k2 ?k3 ?k4 ?kO ?k5 ?kA ?kF ?kK ?k6 ?k7 ?k8 ?k9 ?kB ?kD ?_ ?c2 ?c3 ?c4; (case kA => exact rfl); (case kF => exact rfl); (case kK => assumption); (case k1 => k_asm); (case k2 => k_asm); (case k3 => k_asm); (case k4 => k_asm); (case kO => k_asm); (case k5 => k_asm); (case k6 => k_is); (case k7 => k_is); (case k8 => ktr_room); (case k9 => first | exact BindsTo.of_eq rfl | exact binds_K (by k_in) rfl (by k_is) rfl rfl rfl | (refine' kp_binds ?kx ?ke; (case kx => k_in); (case ke => exact fun _ => rfl))); (case kB => exact rfl); (case kD => decide +kernel); (case c2 => exact rfl); (case c3 => exact rfl); (case c4 => exact rfl); k_whole; intro g' L' h' tk' cells' FG' F' N' Y' B' X' T' l1 lim'; (try k_lt l1); k_cells Y'; (try simp only [List.cons_append, List.nil_append] at N'); (try dsimp only); (try k_fold))))
  k_with "m:cl sub" => (first | exact fun _ h => h | exact List.forall_mem_nil _ | kcj_all)
  k_with "m:cl end" => ((refine' cl_end ?h ?N ?F ?N2 ?_ ?_; (case h => assumption); (case N => assumption); (case F => k_asm); (case N2 => k_asm); rotate_left))
  k_with "m:cl int" => ((refine' cl_end ?h ?N ?F ?N2 ?hn (r_int ?_); (case h => assumption); (case N => assumption); (case F => k_asm); (case N2 => k_asm); (case hn => walk_at "cl sub")))
  k_with "m:cl str" => ((refine' cl_end ?h ?N ?F ?N2 ?hn (r_str ?_); (case h => assumption); (case N => assumption); (case F => k_asm); (case N2 => k_asm); (case hn => walk_at "cl sub")))
  k_with "m:cl bool" => ((refine' cl_end ?h ?N ?F ?N2 ?hn (r_bool ?_); (case h => assumption); (case N => assumption); (case F => k_asm); (case N2 => k_asm); (case hn => walk_at "cl sub")))
  k_with "m:call builtin:list.append" => ((k_here; (with_reducible show wpAny _ _ (call (Value.builtin _) [Value.ref _, _]) _ _ _); k_dflt (refine' append_K ?k1 ?k2 ?k3 ?_ ?z; (case k1 => k_asm); (case k2 => k_asm); (case k3 => k_upd); (case z => exact Nat.le_of_ble_eq_true rfl); k_whole); intro h' F' N'; (try k_sweep)))
  k_with "m:call ref" => ((k_here; k_dflt (k_extra "call ref")))
  k_with "m:cl off1" => (first | exact List.forall_mem_nil _ | exact OwnOff.ne (by assumption) (by simp) | (refine List.forall_mem_cons.mpr ⟨?_, ?_⟩ <;> walk_at "cl off1") | k_ne)
  k_with "m:cl off" => ((unfold Off; walk_at "cl off1"))
  k_with "m:cl mem" => (first | exact List.forall_mem_nil _ | (refine List.forall_mem_cons.mpr ⟨by k_mem, ?_⟩; walk_at "cl mem") | (intro p9 h9; kst_mem))
  k_with "m:cl all" => (((try simp only [List.cons_append, List.nil_append, List.append_nil]); walk_at "cl mem"))
  k_with "m:execs cons" => ((k_here; (with_reducible refine tok_add ?_); intro tk; (try dsimp only); (try k_fold)))
  k_with "m:storeName" => ((k_here; first | ((with_reducible refine tok_sp ?_); intro t9) | ((with_reducible refine tok_st ?_); intro t9)))
  k_with "m:eval ListComp" => ((k_here; lct_look; lcg_calm; k_dflt (refine LCt.ListComp_T (F₀ := by k_asm) (by with_unfolding_all rfl) (by decide) (by rfl) (by decide) (by rfl) ?_); k_dflt lct_toSrc))
  k_with "m:exec Assign cons ListComp" => ((k_here; lct_look; lcg_calm; k_dflt (refine LCt.Assign_ListComp_T (F₀ := by k_asm) (by rfl) (by with_unfolding_all rfl) (by with_unfolding_all rfl) (by decide) (by rfl) (by decide) (by rfl) (by rfl) (by rfl) ?_); k_dflt lct_toSrc))
  k_with "m:CompSrcT" => ((k_here; k_dflt (k_extra "comp")))
  k_with "call ref" => (refine' cl_use0 (closed_cl _ _ _ _ ?hx ?hl) ?k1 ?kC ?k2 ?k3 ?k4 ?k5 ?kK ?kd ?ku ?_; (case k1 => k_asm); (case kC => assumption); (case k2 => k_asm); (case k3 => k_asm); (case k4 => k_asm); (case k5 => k_asm); (case kK => first | exact rfl | assumption); (case hx => first | exact ha | exact hb); (case hl => first | decide | omega); (case kd => ktr_room); (case ku => ktr_units); intro lim9 v9 n9 h9 tk9 lt9 R9 F9 N9; (obtain ⟨e9, t9, e9'⟩ := R9); subst e9; subst e9'; (try dsimp only [List.nil_append] at N9); (try dsimp only); (try k_fold))
  k_with "comp" => ((refine' LCt.CompSrcT.range (n := 8) (a := 0) (b := 8) ?bq1 ?bq2 ?bq3 ?bq4 ?bq5 ?bq6 ?bq7 ?bq8); (case bq1 => (with_unfolding_all rfl)); (case bq2 => k_asm); (case bq3 => k_asm); (case bq4 => assumption); (case bq5 => decide); (case bq6 => rfl); (case bq7 => exact Nat.le_of_ble_eq_true rfl); intro g'; (refine' comp_gen (ks := rangeKs 0 8) ElI (fun k => bitF (dueW a b) k) IntsAre ElI ?bw1 ?bw2 ?bw3 ?bw4 ?bw5 ?bw6 ?bw7); (case bw1 => exact rangeKs_length _ _); (case bw2 => exact pr_at); (case bw3 => exact .nil); (case bw4 => exact zi1); (case bw5 => trivial); (case' bw6 => intro k3 v3 I3 oI3 C3 oC3 D3 m3 zs3 l3 h3 tk3 E3 kM3 kMem3 kEl3 kZ3 kC3 kx3 F3 N3 kOff3 kNe3; (obtain ⟨u3, e3⟩ := kEl3); subst e3; (try dsimp only); (have kB3 := mem_rangeKs kMem3)); (case' bw7 => intro zs2 kZ2;  (try dsimp only)))
  k_with "comp" => ((fail_if_success (have q := kUsed; skip)); (refine' LCt.CompSrcT.range (n := 8) (a := 0) (b := 8) ?aq1 ?aq2 ?aq3 ?aq4 ?aq5 ?aq6 ?aq7 ?aq8); (case aq1 => (with_unfolding_all rfl)); (case aq2 => k_asm); (case aq3 => k_asm); (case aq4 => assumption); (case aq5 => decide); (case aq6 => rfl); (case aq7 => exact Nat.le_of_ble_eq_true rfl); intro g'; (refine' comp_gen (ks := rangeKs 0 8) ElI (fun k => mirF a b k) IntsAre ElI ?aw1 ?aw2 ?aw3 ?aw4 ?aw5 ?aw6 ?aw7); (case aw1 => exact rangeKs_length _ _); (case aw2 => exact pr_at); (case aw3 => exact .nil); (case aw4 => exact zi1); (case aw5 => trivial); (case' aw6 => intro k3 v3 I3 oI3 C3 oC3 D3 m3 zs3 l3 h3 tk3 E3 kM3 kMem3 kEl3 kZ3 kC3 kx3 F3 N3 kOff3 kNe3; (obtain ⟨u3, e3⟩ := kEl3); subst e3; (try dsimp only); (have kB3 := mem_rangeKs kMem3)); (case' aw7 => intro zs1 kZ1; have kUsed : True := trivial; (try dsimp only)))
  k_steps
  · refine' cl_end hret N (by k_asm) (by k_asm) ?hn1 ⟨_, _, _, _, _, _, rfl, kZ2, kZ1, rfl⟩
    case hn1 => walk_at "cl mem"
  · exact tel (by k_asm) (by k_asm) (fun q hq => hq) ⟨bit_t (by assumption), _, rfl⟩
  · exact tel (by k_asm) (by k_asm) (fun q hq => hq) (bit_f (by assumption))
  · exact tel (by k_asm) (by k_asm) (fun q hq => hq) ⟨mir_t (by assumption) (by assumption), _, rfl⟩
  · exact tel (by k_asm) (by k_asm) (fun q hq => hq) (mir_f2 (by assumption))
  · exact tel (by k_asm) (by k_asm) (fun q hq => hq) (mir_f1 (by assumption))

end
section
theorem cl_uD {e1 e2 e3 e4 e5 e6 e7 e8 q68 q61 : Addr × Obj}  {f : Addr} {dd du : Nat} {vs : List Value} {Ret : Addr → Value → List (Addr × Obj) → Prop}
    {dp un : Nat} {gd : Option (List Code)} {cn : Str} {cs : Scope} {a : Addr} {ccd : Value} {cl : List (Str × Addr)} {outer : List Env} {A₀ : Around} {base h₀ : Heap} {L : Addr} {m : Str → Option Value} {s : Shared} {Q E : Value → Shared → Prop}
    (C : Cl w p loose mean mg mb f dd du vs [q61, q68] Ret)
    (B : Below A₀ base outer h₀) (CD : Cds base) (F : Fr h₀ L s.heap m) (X : (hd.heap_39 w.params).In h₀) (N : News h₀ L s.heap ([e1, e2, e3, e4, e5, e6, e7, e8, q68, q61])) (O : Off [q61, q68] ([e1, e2, e3, e4, e5, e6, e7, e8])) (T : Top p loose mean mg mb h₀) (hk : cs.kind = .function)
    (hd : dp + dd < recursionLimit) (hu : un + du < cLine)
    (ret : ∀ lim v vis' h' tk', (∀ q ∈ [e1, e2, e3, e4, e5, e6, e7, e8, q68, q61], q.1 < lim) → Ret lim v vis' → Fr h₀ L h' m → News h₀ L h' (vis' ++ ([e1, e2, e3, e4, e5, e6, e7, e8])) → Q v { s with heap := h', toks := tk' }) :
    wpAny (model PySem.Challenge.rw_sn0086_01.row.prog w) (ktrTop dp un gd cn cs L a ccd cl outer) (call (.ref f) vs) Q E s :=
  cl_use C B CD F X N (fun q hq => by
    simp only [List.mem_append, List.mem_cons, List.not_mem_nil, or_false] at hq ⊢
    rcases hq with hq | hq
    · rcases hq with h | h <;> simp [h]
    · rcases hq with h | h | h | h | h | h | h | h <;> simp [h]) O T hk hd hu ret
theorem cl_uS1 {e1 q61 qc e4 qw : Addr × Obj} {r : List (Addr × Obj)} {f : Addr} {dd du : Nat} {vs : List Value} {Ret : Addr → Value → List (Addr × Obj) → Prop}
    {dp un : Nat} {gd : Option (List Code)} {cn : Str} {cs : Scope} {a : Addr} {ccd : Value} {cl : List (Str × Addr)} {outer : List Env} {A₀ : Around} {base h₀ : Heap} {L : Addr} {m : Str → Option Value} {s : Shared} {Q E : Value → Shared → Prop}
    (C : Cl w p loose mean mg mb f dd du vs [qw, q61, qc] Ret)
    (B : Below A₀ base outer h₀) (CD : Cds base) (F : Fr h₀ L s.heap m) (X : (hd.heap_39 w.params).In h₀) (N : News h₀ L s.heap (e1 :: q61 :: qc :: e4 :: qw :: r)) (O : Off [qw, q61, qc] (e1 :: e4 :: r)) (T : Top p loose mean mg mb h₀) (hk : cs.kind = .function)
    (hd : dp + dd < recursionLimit) (hu : un + du < cLine)
    (ret : ∀ lim v vis' h' tk', (∀ q ∈ e1 :: q61 :: qc :: e4 :: qw :: r, q.1 < lim) → Ret lim v vis' → Fr h₀ L h' m → News h₀ L h' (vis' ++ (e1 :: e4 :: r)) → Q v { s with heap := h', toks := tk' }) :
    wpAny (model PySem.Challenge.rw_sn0086_01.row.prog w) (ktrTop dp un gd cn cs L a ccd cl outer) (call (.ref f) vs) Q E s :=
  cl_use C B CD F X N (fun q hq => by
    simp only [List.mem_append, List.mem_cons, List.not_mem_nil, or_false] at hq ⊢
    rcases hq with hq | hq
    · rcases hq with h | h | h <;> simp [h]
    · rcases hq with h | h | h <;> simp [h]) O T hk hd hu ret
theorem cl_uK {qs qw : Addr × Obj} {r : List (Addr × Obj)} {f : Addr} {dd du : Nat} {vs : List Value} {Ret : Addr → Value → List (Addr × Obj) → Prop}
    {dp un : Nat} {gd : Option (List Code)} {cn : Str} {cs : Scope} {a : Addr} {ccd : Value} {cl : List (Str × Addr)} {outer : List Env} {A₀ : Around} {base h₀ : Heap} {L : Addr} {m : Str → Option Value} {s : Shared} {Q E : Value → Shared → Prop}
    (C : Cl w p loose mean mg mb f dd du vs [qw, qs] Ret)
    (B : Below A₀ base outer h₀) (CD : Cds base) (F : Fr h₀ L s.heap m) (X : (hd.heap_39 w.params).In h₀) (N : News h₀ L s.heap (qs :: qw :: r)) (O : Off [qw, qs] (r)) (T : Top p loose mean mg mb h₀) (hk : cs.kind = .function)
    (hd : dp + dd < recursionLimit) (hu : un + du < cLine)
    (ret : ∀ lim v vis' h' tk', (∀ q ∈ qs :: qw :: r, q.1 < lim) → Ret lim v vis' → Fr h₀ L h' m → News h₀ L h' (vis' ++ (r)) → Q v { s with heap := h', toks := tk' }) :
    wpAny (model PySem.Challenge.rw_sn0086_01.row.prog w) (ktrTop dp un gd cn cs L a ccd cl outer) (call (.ref f) vs) Q E s :=
  cl_use C B CD F X N (fun q hq => by
    simp only [List.mem_append, List.mem_cons, List.not_mem_nil, or_false] at hq ⊢
    rcases hq with hq | hq
    · rcases hq with h | h <;> simp [h]
    · exact .inr (.inr hq)) O T hk hd hu ret
theorem cl_uS2 {e1 qw e3 q61 qc : Addr × Obj} {r : List (Addr × Obj)} {f : Addr} {dd du : Nat} {vs : List Value} {Ret : Addr → Value → List (Addr × Obj) → Prop}
    {dp un : Nat} {gd : Option (List Code)} {cn : Str} {cs : Scope} {a : Addr} {ccd : Value} {cl : List (Str × Addr)} {outer : List Env} {A₀ : Around} {base h₀ : Heap} {L : Addr} {m : Str → Option Value} {s : Shared} {Q E : Value → Shared → Prop}
    (C : Cl w p loose mean mg mb f dd du vs [qw, q61, qc] Ret)
    (B : Below A₀ base outer h₀) (CD : Cds base) (F : Fr h₀ L s.heap m) (X : (hd.heap_39 w.params).In h₀) (N : News h₀ L s.heap (e1 :: qw :: e3 :: q61 :: qc :: r)) (O : Off [qw, q61, qc] (e1 :: e3 :: r)) (T : Top p loose mean mg mb h₀) (hk : cs.kind = .function)
    (hd : dp + dd < recursionLimit) (hu : un + du < cLine)
    (ret : ∀ lim v vis' h' tk', (∀ q ∈ e1 :: qw :: e3 :: q61 :: qc :: r, q.1 < lim) → Ret lim v vis' → Fr h₀ L h' m → News h₀ L h' (vis' ++ (e1 :: e3 :: r)) → Q v { s with heap := h', toks := tk' }) :
    wpAny (model PySem.Challenge.rw_sn0086_01.row.prog w) (ktrTop dp un gd cn cs L a ccd cl outer) (call (.ref f) vs) Q E s :=
  cl_use C B CD F X N (fun q hq => by
    simp only [List.mem_append, List.mem_cons, List.not_mem_nil, or_false] at hq ⊢
    rcases hq with hq | hq
    · rcases hq with h | h | h <;> simp [h]
    · rcases hq with h | h | h <;> simp [h]) O T hk hd hu ret
noncomputable def NotF (o : Obj) : Prop := ∀ v, o.data ≠ .fields v
theorem notF_list {its : Array Value} {n : Nat} : NotF (listOf its n) := fun _ e => nomatch e
theorem notF_cell {o : Obj} {v : Option Value} (h : o.data = .cell v) : NotF o := fun _ e => by rw [h] at e; cases e
theorem code_ne {h₀ h : Heap} {L c : Addr} {q1 q2 : Addr × Obj} {oc : Obj} {rest : List (Addr × Obj)} (N : News h₀ L h (q1 :: q2 :: (c, oc) :: rest)) (ok : CodeOk oc) (hd : ∀ p ∈ rest, NotF p.2) : ∀ p ∈ rest, p.1 ≠ c := fun p hp e => by
  obtain ⟨v, t, e1, _⟩ := ok
  have n1 := (N p (List.mem_cons_of_mem _ (List.mem_cons_of_mem _ (List.mem_cons_of_mem _ hp)))).1
  have n2 := (N (c, oc) (List.mem_cons_of_mem _ (List.mem_cons_of_mem _ List.mem_cons_self))).1
  rw [e] at n1
  have e2 := Option.some.inj (n1.symm.trans n2)
  exact hd p hp v (by rw [e2]; exact e1)

end
section
section
open LCg
variable {prog : Program} {w : World} {A : Around} {E : Value → Shared → Prop} {s : Shared} {h₀ : Heap} {L : Addr} {m : PySem.Str → Option Value} {env : Env}
/-- apart from a comprehension's own four -/
noncomputable def OffC (I C cc D : Addr) (news : List (Addr × Obj)) : Prop := ∀ p ∈ news, p.1 ≠ I ∧ p.1 ≠ C ∧ p.1 ≠ cc ∧ p.1 ≠ D
noncomputable def CEndC (h₀ : Heap) (L : Addr) (m : PySem.Str → Option Value) (s₁ : Shared) (I : Addr) (oI : Obj) (C : Addr) (oC : Obj) (cc : Addr) (occ : Obj) (D : Addr) (oD : Obj) (S : List (Addr × Obj) → Prop) (rest : Value → List (Addr × Obj) → Prop) (y : Value) (s₂ : Shared) : Prop :=
  ∃ h' tk news', s₂ = { s₁ with heap := h', toks := tk } ∧ Fr h₀ L h' m ∧ News h₀ L h' ((I, oI) :: (C, oC) :: (cc, occ) :: (D, oD) :: news') ∧ OffC I C cc D news' ∧ S news' ∧ rest y news'
/-- the turns of a comprehension without test whose letter is a cell -/
noncomputable def CRestC (prog : Program) (w : World) (A : Around) (h₀ : Heap) (L : Addr) (m : PySem.Str → Option Value) (env : Env) (elt : PySem.Expr) (x : PySem.Str) (scope : Scope) (cl : List (PySem.Str × Addr)) (s : Shared) (S : List (Addr × Obj) → Prop) (P : Nat → Value → Prop)
    (Fin : List Value → List (Addr × Obj) → Prop) : Nat → Nat → List Value → List (Addr × Obj) → Prop
  | 0, _, ys, news => Fin ys news
  | k + 1, i, ys, news => ∀ v I oI C oC cc occ D h tk (E' : Value → Shared → Prop), P i v → occ.data = .cell (some v) → Fr h₀ L h m → News h₀ L h ((I, oI) :: (C, oC) :: (cc, occ) :: (D, lst ys) :: news) → OffC I C cc D news → ((@Ne Nat I C) ∧ (@Ne Nat I cc) ∧ (@Ne Nat I D) ∧ (@Ne Nat C cc) ∧ (@Ne Nat C D) ∧ (@Ne Nat cc D)) →
      wpAny (model prog w) A (eval elt (compEnvC scope ((x, cc) :: cl) C env)) (CEndC h₀ L m { s with heap := h, toks := tk } I oI C oC cc occ D (lst ys) S (fun y news' => CRestC prog w A h₀ L m env elt x scope cl s S P Fin k (i + 1) (ys ++ [y]) news')) E' { s with heap := h, toks := tk }
theorem block_C {elt iter : PySem.Expr} {x a0 b0 : PySem.Str} {px : Pos} {scope : Scope} {cl : List (PySem.Str × Addr)} {pos : Pos} {s₂ : Shared} {I : Addr} {fp : List Addr} {n : Nat} {P : Nat → Value → Prop} {St : Nat → Heap → Prop} {S : List (Addr × Obj) → Prop} {news : List (Addr × Obj)}
    {Fin : List Value → List (Addr × Obj) → Prop} {RR : Value → Addr → Result → Shared → Prop}
    (W : Walks prog w A I fp [I] n P St) (hsz : n ≤ sizeLine) (hIo : ∀ i h, St i h → ∃ o, h.get? I = some o)
    (hSt : ∀ i h h' o nw, St i h → h.get? I = some o → h'.get? I = some o → (∀ b o, h₀.get? b = some o → h'.get? b = some o) → News h₀ L h' nw → S nw → St i h')
    (hnm : scope.names = [(a0, .local), (x, .cell), (b0, .free)]) (hkind : scope.kind = .function) (hkx : ∀ C cells, (compEnvC scope cells C env).kindOf x = some .cell) (hst : St 0 s₂.heap) (hfp : ∀ b ∈ fp, b < s₂.heap.objs.size)
    (F : Fr h₀ L s₂.heap m) (N : News h₀ L s₂.heap news) (hIL : L ≠ I) (hI₀ : h₀.get? I = none) (off : ∀ p ∈ news, p.1 ≠ I) (hS : S news)
    (R : CRestC prog w A h₀ L m env elt x scope cl s₂ S P Fin n 0 [] news)
    (hRR : ∀ D C h tk m' ys news', Fr h₀ L h m → News h₀ L h ((D, lst ys) :: news') → (∀ p ∈ news', p.1 ≠ D) → h.Ns C m' → h₀.get? C = none → h₀.get? D = none → C ≠ L → D ≠ L → C ≠ D → (∀ p ∈ news', p.1 ≠ C) → Fin ys news' → RR (.ref D) C (.ok .next) { s₂ with heap := h, toks := tk }) :
    wpAny (model prog w) A (newList []) (fun acc s₃ => wpAny (model prog w) A (newFunctionEnv scope env.globals cl [] env.qual none .none (some env)) (fun cenv s₄ =>
      codeAny (model prog w) A (.compStart (.ListComp elt [⟨.Name x px, iter, [], 0⟩] scope pos) 0 (.ref I) acc { cenv with scope := relabel scope env }) (RR acc cenv.locals) s₄) E s₃) E s₂ := by
  refine wpAny_newObj_type ?_
  generalize hH2 : s₂.heap.push { cls := .type "list", dict := none, data := .seq ([] : List Value).toArray } = H2
  have hC : H2.objs.size = s₂.heap.objs.size + 1 := by rw [← hH2, Heap.size_push]
  simp only [newFunctionEnv, Option.isSome_some, if_true]
  refine wpAny_bind (wpAny_alloc ?_)
  refine wpAny_bind (wpAny_layCells _ (fun name kind cells => by cases hkc : kind == NameKind.cell <;> simp [hkc]) _ _ _ _ ?_)
  refine wpAny_bind ?_
  rw [List.forIn_nil]
  refine wpAny_pure (wpAny_pure ?_)
  have e1 : ∀ k, cellsFrom k scope.names cl = (x, k) :: cl := fun k => by rw [hnm]; rfl
  have e2 : ∀ h : Heap, pushCells h scope.names = h.push { cls := .type "cell", data := .cell none } := fun h => by rw [hnm]; rfl
  simp only [e1, e2]
  have hcc : (H2.push { cls := .type "dict", data := .dict #[] }).objs.size = H2.objs.size + 1 := Heap.size_push ..
  rw [hcc]
  have hns₁ : ((H2.push { cls := .type "dict", data := .dict #[] }).push { cls := .type "cell", data := .cell none }).Ns H2.objs.size fun _ => none := (Heap.Ns.new H2 (.type "dict")).keeps fun b o e => Heap.get?_push_of_some _ e
  have hcl₁ : ((H2.push { cls := .type "dict", data := .dict #[] }).push { cls := .type "cell", data := .cell none }).get? (H2.objs.size + 1) = some { cls := .type "cell", data := .cell none } := by rw [← hcc]; exact Heap.get?_push_size _ rfl
  have kp₁ : ∀ b o, H2.get? b = some o → ((H2.push { cls := .type "dict", data := .dict #[] }).push { cls := .type "cell", data := .cell none }).get? b = some o := fun b o e => Heap.get?_push_of_some _ (Heap.get?_push_of_some _ e)
  generalize ((H2.push { cls := .type "dict", data := .dict #[] }).push { cls := .type "cell", data := .cell none }) = h₁ at hns₁ hcl₁ kp₁ ⊢
  generalize hCe : H2.objs.size = C at hns₁ hcl₁ hC hcc ⊢
  have hDC : s₂.heap.objs.size ≠ C := by rw [hC]; exact Nat.ne_of_lt (Nat.lt_succ_self _)
  have below : ∀ b, b < s₂.heap.objs.size → b ≠ C ∧ b ≠ C + 1 ∧ b ≠ s₂.heap.objs.size := fun b hb => by
    have q : @LT.lt Nat _ b s₂.heap.objs.size := hb
    have q2 : @Eq Nat C (s₂.heap.objs.size + 1) := hC
    exact ⟨Nat.ne_of_lt (by omega), Nat.ne_of_lt (by omega), Nat.ne_of_lt q⟩
  have hDcc : s₂.heap.objs.size ≠ C + 1 := by rw [hC]; exact Nat.ne_of_lt (Nat.lt_trans (Nat.lt_succ_self _) (Nat.lt_succ_self _))
  have hCcc : C ≠ C + 1 := Nat.ne_of_lt (Nat.lt_succ_self _)
  have hDf : s₂.heap.objs.size ∉ fp := fun hm => Nat.lt_irrefl _ (hfp _ hm)
  have hccf : C + 1 ∉ fp := fun hm => by have q := hfp _ hm; rw [hC] at q; exact Nat.lt_irrefl _ (Nat.lt_trans (Nat.lt_trans (Nat.lt_succ_self _) (Nat.lt_succ_self _)) q)
  have hIf : I ∈ fp := W.sub I (List.mem_singleton.mpr rfl)
  have hIlt : I < s₂.heap.objs.size := hfp I hIf
  have old : ∀ b o, s₂.heap.get? b = some o → h₁.get? b = some o := fun b o e => kp₁ b o (hH2 ▸ Heap.get?_push_of_some _ e)
  have hacc : h₁.get? s₂.heap.objs.size = some (lst []) := kp₁ _ _ (hH2 ▸ Heap.get?_push_size _ rfl)
  have hst₁ : St 0 h₁ := W.frame _ _ _ hst fun b _ o e => old b o e
  have fresh : ∀ a, s₂.heap.objs.size ≤ a → s₂.heap.get? a = none := fun a ha => by
    cases e : s₂.heap.get? a with
    | none => rfl
    | some o' => exact absurd (Heap.lt_size e) (Nat.not_lt.mpr ha)
  have fresh₀ : ∀ a, s₂.heap.objs.size ≤ a → h₀.get? a = none := fun a ha => by
    cases e : h₀.get? a with
    | none => rfl
    | some o' => have := F.keep a o' e; rw [fresh a ha] at this; cases this
  have hD₀ : h₀.get? s₂.heap.objs.size = none := fresh₀ _ (Nat.le_refl _)
  have hC₀ : h₀.get? C = none := fresh₀ _ (by rw [hC]; exact Nat.le_succ _)
  have hcc₀ : h₀.get? (C + 1) = none := fresh₀ _ (by rw [hC]; exact Nat.le_trans (Nat.le_succ _) (Nat.le_succ _))
  have hLlt : L < s₂.heap.objs.size := F.ns.lt
  have hDL : s₂.heap.objs.size ≠ L := Ne.symm (below L hLlt).2.2
  have hCL : C ≠ L := Ne.symm (below L hLlt).1
  have hccL : C + 1 ≠ L := Ne.symm (below L hLlt).2.1
  have hCI : I ≠ C := (below I hIlt).1
  have hccI : I ≠ C + 1 := (below I hIlt).2.1
  have hDI : I ≠ s₂.heap.objs.size := (below I hIlt).2.2
  have off₀ : OffC I C (C + 1) s₂.heap.objs.size news := fun p hp => ⟨off p hp, (below _ (Heap.lt_size (N p hp).1)).1, (below _ (Heap.lt_size (N p hp).1)).2.1, (below _ (Heap.lt_size (N p hp).1)).2.2⟩
  have loop : ∀ s₃ : Shared, s₃ = { s₂ with heap := h₁ } →
      codeAny (model prog w) A (.compLoop (.ListComp elt [⟨.Name x px, iter, [], 0⟩] scope pos) 0 (.ref I) (.ref s₂.heap.objs.size) (compEnvC scope ((x, C + 1) :: cl) C env))
        (RR (.ref s₂.heap.objs.size) C) s₃ := by
    rintro s₃ rfl
    refine codeAny_compLoop_tests
      (fun k s' => ∃ h' tk i ys m' news' occ v0, s' = { s₂ with heap := h', toks := tk } ∧ i ≤ n ∧ k = n + 1 - i ∧ ys.length = i ∧ St i h' ∧ Fr h₀ L h' m ∧ h'.Ns C m' ∧ News h₀ L h' ((s₂.heap.objs.size, lst ys) :: news') ∧ h'.get? (C + 1) = some occ ∧ occ.data = .cell v0 ∧
        OffC I C (C + 1) s₂.heap.objs.size news' ∧ S news' ∧ CRestC prog w A h₀ L m env elt x scope cl s₂ S P Fin (n - i) i ys news') ?_ (n + 1)
      ⟨h₁, _, 0, [], _, news, _, none, rfl, Nat.zero_le _, rfl, rfl, hst₁, F.keeps old, hns₁, fun p hp => ?_, hcl₁, rfl, off₀, hS, R⟩
    · rintro k s' ⟨h', tk, i, ys, m', news', occ, v0, rfl, hi, rfl, hyl, hst', F', hn', N', hcell', hcd', off', hS', R'⟩
      by_cases hlt : i < n
      · obtain ⟨j, hj⟩ : ∃ j, n - i = j + 1 := ⟨n - i - 1, by omega⟩
        rw [hj] at R'
        refine W.item i _ _ _ hlt hst' fun v h₂ tk₂ hPv hst₂ hk₂ => ?_
        have hcell₂ : h₂.get? (C + 1) = some occ := hk₂ _ _ (by simpa using Ne.symm hccI) hcell'
        refine wpAny_assign_Name (wpAny_storeName_cell (by simp [compEnvC, relabel, hkind]) (hkx _ _) (c := C + 1) (by simp [compEnvC]) ⟨occ, hcell₂, hcd'⟩ (fun h₃ hv₃ hs₃ => ?_))
        refine wpAny_tests_nil ?_
        simp only [if_true]
        obtain ⟨occ3, heO, hdO⟩ := hv₃
        have hst₃ : St (i + 1) h₃ := W.frame _ _ _ hst₂ fun b hb o e => hs₃.extBut b o (fun q => hccf (by have q' : b = C + 1 := q; rw [← q']; exact hb)) e
        obtain ⟨oI, heI⟩ := hIo _ _ hst₃
        have hn₃ : h₃.Ns C m' := (hn'.at' fun o e => hk₂ _ o (by simpa using Ne.symm hCI) e).sameBut hs₃ hCcc
        obtain ⟨oC, heC, hoC⟩ := ns_obj hn₃
        have F₃ : Fr h₀ L h₃ m := (fr_but F' hk₂ hIL hI₀).change hs₃ hccL hcc₀
        have N₂ : News h₀ L h₂ ((s₂.heap.objs.size, lst ys) :: news') := news_but N' hk₂ fun p hp => by
          rcases List.mem_cons.mp hp with rfl | hp
          · exact Ne.symm hDI
          · exact (off' p hp).1
        have N₃ : News h₀ L h₃ ((I, oI) :: (C, oC) :: (C + 1, occ3) :: (s₂.heap.objs.size, lst ys) :: news') := fun p hp => by
          rcases List.mem_cons.mp hp with rfl | hp
          · exact ⟨heI, Ne.symm hIL, hI₀⟩
          rcases List.mem_cons.mp hp with rfl | hp
          · exact ⟨heC, hCL, hC₀⟩
          rcases List.mem_cons.mp hp with rfl | hp
          · exact ⟨heO, hccL, hcc₀⟩
          have z := N₂ p hp
          refine ⟨hs₃.extBut _ _ ?_ z.1, z.2⟩
          rcases List.mem_cons.mp hp with rfl | hp
          · exact hDcc
          · exact (off' p hp).2.2.1
        refine wpAny_mono (R' v I oI C oC (C + 1) occ3 s₂.heap.objs.size h₃ _ _ hPv hdO F₃ N₃ off' ⟨hCI, hccI, hDI, hCcc, Ne.symm hDC, Ne.symm hDcc⟩) (fun y s₄ h₄ => ?_) fun _ _ e => e
        obtain ⟨h₄, tk₄, news₄, rfl, F₄, N₄, off₄, hS₄, R₄⟩ := h₄
        have zI := (N₄ (I, oI) List.mem_cons_self).1
        have zC := (N₄ (C, oC) (List.mem_cons_of_mem _ List.mem_cons_self)).1
        have zO := (N₄ (C + 1, occ3) (List.mem_cons_of_mem _ (List.mem_cons_of_mem _ List.mem_cons_self))).1
        have zD := (N₄ (s₂.heap.objs.size, lst ys) (List.mem_cons_of_mem _ (List.mem_cons_of_mem _ (List.mem_cons_of_mem _ List.mem_cons_self)))).1
        have N₄' : News h₀ L h₄ news₄ := fun p hp => N₄ p (List.mem_cons_of_mem _ (List.mem_cons_of_mem _ (List.mem_cons_of_mem _ (List.mem_cons_of_mem _ hp))))
        have hst₄ : St (i + 1) h₄ := hSt _ _ _ _ _ hst₃ heI zI F₄.keep N₄' hS₄
        refine append_at (hsz := by show ys.toArray.size ≤ sizeLine; rw [List.size_toArray, hyl]; exact Nat.le_trans hi hsz) zD fun h₅ hs₅ hD₅ => ?_
        refine ⟨n + 1 - (i + 1), by omega, h₅, tk₄, i + 1, ys ++ [y], _, news₄, occ3, some v, rfl, hlt, rfl, by rw [List.length_append, List.length_singleton, hyl], W.frame _ _ _ hst₄ fun b hb o e => hs₅.extBut b o (fun q => hDf (q ▸ hb)) e, F₄.change hs₅ hDL hD₀,
          (hoC.ns zC).sameBut hs₅ (Ne.symm hDC), fun p hp => ?_, hs₅.extBut _ _ (Ne.symm hDcc) zO, hdO, off₄, hS₄, ?_⟩
        · rcases List.mem_cons.mp hp with rfl | hp
          · exact ⟨hD₅.trans (congrArg some (lst_snoc ys y)), hDL, hD₀⟩
          · exact ⟨hs₅.extBut _ _ (off₄ p hp).2.2.2 (N₄' p hp).1, (N₄' p hp).2⟩
        · rw [show n - (i + 1) = j by omega]
          exact R₄
      · obtain rfl : i = n := Nat.le_antisymm hi (Nat.not_lt.mp hlt)
        rw [Nat.sub_self] at R'
        refine W.done _ _ _ hst' fun h₂ tk₂ hk₂ => ?_
        exact hRR _ _ h₂ tk₂ _ ys news' (fr_but F' hk₂ hIL hI₀) (news_but N' hk₂ fun p hp => by
          rcases List.mem_cons.mp hp with rfl | hp
          · exact Ne.symm hDI
          · exact (off' p hp).1) (fun p hp => (off' p hp).2.2.2) (hn'.at' fun o e => hk₂ _ o (by simpa using Ne.symm hCI) e) hC₀ hD₀ hCL hDL (Ne.symm hDC) (fun p hp => (off' p hp).2.1) R'
    · rcases List.mem_cons.mp hp with rfl | hp
      · exact ⟨hacc, hDL, hD₀⟩
      · exact ⟨old _ _ (N p hp).1, (N p hp).2⟩
  exact codeAny_compStart_list (loop _ rfl) (W.self 0 _ _ _ hst₁ (loop _ rfl))
end

end
section
section
open LCg
variable {prog : Program} {w : World} {A : Around} {E : Value → Shared → Prop} {s : Shared} {h₀ : Heap} {L : Addr} {m : PySem.Str → Option Value} {env : Env}
noncomputable def FinC (h₀ : Heap) (L : Addr) (m : PySem.Str → Option Value) (s : Shared) (Q : Value → Shared → Prop) (ys : List Value) (news : List (Addr × Obj)) : Prop :=
  ∀ D h tk, Fr h₀ L h m → News h₀ L h ((D, lst ys) :: news) → (∀ p ∈ news, p.1 ≠ D) → Q (.ref D) { s with heap := h, toks := tk }
noncomputable def SrcC (prog : Program) (w : World) (A : Around) (h₀ : Heap) (L : Addr) (m : PySem.Str → Option Value) (env : Env) (elt : PySem.Expr) (x : PySem.Str) (scope : Scope) (cl : List (PySem.Str × Addr)) (Q : Value → Shared → Prop) (xv : Value) (s₁ : Shared) : Prop :=
  ∃ ax its news, xv = .ref ax ∧ A.handled = none ∧ Fr h₀ L s₁.heap m ∧ News h₀ L s₁.heap news ∧ SrcAt h₀ ax its news ∧ its.size ≤ sizeLine ∧
    ∀ s₂ : Shared, (∃ h, s₂ = { s₁ with heap := h }) → CRestC prog w A h₀ L m env elt x scope cl s₂ (SrcAt h₀ ax its) (fun i v => its[i]? = some v) (FinC h₀ L m s₂ Q) its.size 0 [] news
theorem SrcC.ledger {elt : PySem.Expr} {x : PySem.Str} {scope : Scope} {cl : List (PySem.Str × Addr)} {Q : Value → Shared → Prop} {ax : Addr} {its : Array Value} {k : Nat} {news : List (Addr × Obj)} {s₁ : Shared}
    (hh : A.handled = none) (F : Fr h₀ L s₁.heap m) (N : News h₀ L s₁.heap news) (hm : (ax, ({ cls := .type "list", data := .seq its k } : Obj)) ∈ news) (hsz : its.size ≤ sizeLine)
    (h : ∀ g, CRestC prog w A h₀ L m env elt x scope cl { s₁ with heap := g } (SrcAt h₀ ax its) (fun i v => its[i]? = some v) (FinC h₀ L m { s₁ with heap := g } Q) its.size 0 [] news) :
    SrcC prog w A h₀ L m env elt x scope cl Q (.ref ax) s₁ := ⟨ax, its, news, rfl, hh, F, N, .inr ⟨_, hm, rfl, _, rfl⟩, hsz, fun _ ⟨g, e⟩ => e ▸ h g⟩
theorem ListComp_C {elt iter : PySem.Expr} {x a0 b0 : PySem.Str} {px : Pos} {scope : Scope} {cl : List (PySem.Str × Addr)} {pos : Pos} {Q : Value → Shared → Prop}
    (hclos : closureFor scope env = pure cl) (hnm : scope.names = [(a0, .local), (x, .cell), (b0, .free)]) (hkind : scope.kind = .function) (hkx : ∀ C cells, (compEnvC scope cells C env).kindOf x = some .cell)
    (hnames : ∀ y ∈ scope.names, y.2 = .local → scope.names.lookup y.1 = some .local)
    (h : wpAny (model prog w) A (eval iter env) (SrcC prog w A h₀ L m env elt x scope cl Q) E s)
    (hs : ∀ x, foldedSetIterable iter env x = pure x := by intro _; rfl) :
    wpAny (model prog w) A (eval (.ListComp elt [⟨.Name x px, iter, [], 0⟩] scope pos) env) Q E s := by
  rw [eval_ListComp]
  refine wpAny_comprehension_free (use := none) rfl hs hclos hkind hnames (wpAny_mono h (fun xv s₁ h₁ => ?_) fun _ _ e => e)
  obtain ⟨ax, its, news, rfl, hh, F, N, S, hsz, R⟩ := h₁
  have hl := S.list F.keep N
  have hlt : ax < s₁.heap.objs.size := by obtain ⟨_, e, _⟩ := hl; exact Heap.lt_size e
  refine wpAny_pyIter_list hl ?_
  have up : ∀ b o, s₁.heap.get? b = some o → (s₁.heap.push { cls := .type "list_iterator", data := .fields #[.ref ax, .int 0 0] }).get? b = some o := fun b o e => Heap.get?_push_of_some _ e
  refine block_C (Walks.list hh s₁.heap.objs.size ax (Nat.ne_of_lt hlt) its) hsz (fun i h st => by obtain ⟨o, e, _⟩ := st.1; exact ⟨o, e⟩) list_st hnm hkind hkx ⟨⟨_, Heap.get?_push_size _ rfl, rfl, rfl⟩, hl.push _⟩ (fun b hb => ?_)
    (F.keeps up) (N.grown up) (Nat.ne_of_lt F.ns.lt) (next_is_new F) (fun p hp => Nat.ne_of_lt (Heap.lt_size (N p hp).1)) S (R _ ⟨_, rfl⟩) ?_
  · show b < (s₁.heap.push _).objs.size
    rw [Heap.size_push]
    rcases List.mem_cons.mp hb with rfl | hb
    · exact Nat.lt_succ_self _
    · rw [List.mem_singleton.mp hb]; exact Nat.lt_succ_of_lt hlt
  · intro D C h tk m' ys news' F' N' o1 hn hC₀ hD₀ hCL hDL hCD offC fin
    refine ⟨m', hn, fun h'' hs'' => fin D h'' tk (F'.change hs'' hCL hC₀) (fun p hp => ?_) o1⟩
    refine ⟨hs''.extBut _ _ ?_ (N' p hp).1, (N' p hp).2⟩
    rcases List.mem_cons.mp hp with rfl | hp
    · exact Ne.symm hCD
    · exact offC p hp
/-- the rows of a table, made one by one: the i-th row is a list of the ints f i -/
noncomputable def RowsL (f : Nat → List Int) (rows : List (Addr × Obj)) (ys : List Value) (k : Nat) : Prop :=
  ∃ rs : List Addr, ys = rs.map Value.ref ∧ rs.length = k ∧ ∀ j : Nat, j < k → ∃ zs, (rs.getD j 0, lst zs) ∈ rows ∧ IntsAre zs (f j)
theorem rowsL_snoc {f : Nat → List Int} {rows : List (Addr × Obj)} {ys zs : List Value} {k : Nat} {r : Addr} (h : RowsL f rows ys k) (hz : IntsAre zs (f k)) : RowsL f ((r, lst zs) :: rows) (ys ++ [.ref r]) (k + 1) := by
  obtain ⟨rs, e, l, q⟩ := h
  refine ⟨rs ++ [r], by rw [e, List.map_append]; rfl, by rw [List.length_append, l]; rfl, fun j hj => ?_⟩
  by_cases hk : j < k
  · obtain ⟨zs', m1, m2⟩ := q j hk
    refine ⟨zs', ?_, m2⟩
    have e2 : (rs ++ [r]).getD j 0 = rs.getD j 0 := by
      rw [List.getD_eq_getElem?_getD, List.getD_eq_getElem?_getD, List.getElem?_append_left (by omega)]
    rw [e2]; exact List.mem_cons_of_mem _ m1
  · have ek : j = k := by omega
    subst ek
    have e2 : (rs ++ [r]).getD j 0 = r := by
      rw [List.getD_eq_getElem?_getD, List.getElem?_append_right (by omega), l]; simp
    exact ⟨zs, by rw [e2]; exact List.mem_cons_self, hz⟩
theorem comp_rows {elt : PySem.Expr} {x : PySem.Str} {scope : Scope} {cl : List (PySem.Str × Addr)} {S : List (Addr × Obj) → Prop} {P : Nat → Value → Prop} {Fin : List Value → List (Addr × Obj) → Prop} {n : Nat} {news : List (Addr × Obj)} (f : Nat → List Int) (hS : ∀ rows, S (news ++ rows))
    (turn : ∀ i v rows I oI C oC cc occ D ys h tk (E' : Value → Shared → Prop), KstMark → i < n → P i v → occ.data = .cell (some v) → Fr h₀ L h m → News h₀ L h ((I, oI) :: (C, oC) :: (cc, occ) :: (D, lst ys) :: (news ++ rows)) → ((@Ne Nat I C) ∧ (@Ne Nat I cc) ∧ (@Ne Nat I D) ∧ (@Ne Nat C cc) ∧ (@Ne Nat C D) ∧ (@Ne Nat cc D)) →
      wpAny (model prog w) A (eval elt (compEnvC scope ((x, cc) :: cl) C env)) (fun y s₄ => ∃ r zs h' tk', y = .ref r ∧ s₄ = { s with heap := h', toks := tk' } ∧ IntsAre zs (f i) ∧ Fr h₀ L h' m ∧ News h₀ L h' ((r, lst zs) :: (I, oI) :: (C, oC) :: (cc, occ) :: (D, lst ys) :: (news ++ rows)) ∧ (@Ne Nat r I ∧ @Ne Nat r C ∧ @Ne Nat r cc ∧ @Ne Nat r D)) E' { s with heap := h, toks := tk })
    (fin : ∀ ys rows, RowsL f rows ys n → Fin ys (news ++ rows)) : CRestC prog w A h₀ L m env elt x scope cl s S P Fin n 0 [] news := by
  have key : ∀ (j i : Nat) (ys : List Value) (rows : List (Addr × Obj)), i + j = n → RowsL f rows ys i → CRestC prog w A h₀ L m env elt x scope cl s S P Fin j i ys (news ++ rows) := by
    intro j
    induction j with
    | zero =>
      intro i ys rows hi hz
      have e : i = n := by omega
      subst e
      exact fin ys rows hz
    | succ j ih =>
      intro i ys rows hi hz v I oI C oC cc occ D h tk E' hv hd F N off ne
      refine wpAny_mono (turn i v rows I oI C oC cc occ D ys h tk E' kstMark (by omega) hv hd F N ne) (fun y s₄ q => ?_) fun _ _ e => e
      obtain ⟨r, zs, h', tk', rfl, rfl, hzs, F', N', o1, o2, o3, o4⟩ := q
      refine ⟨h', tk', news ++ (r, lst zs) :: rows, rfl, F', fun p hp => N' p ?_, fun p hp => ?_, hS _, ih (i + 1) _ ((r, lst zs) :: rows) (by omega) (rowsL_snoc hz hzs)⟩
      · simp only [List.mem_cons, List.mem_append] at hp ⊢
        rcases hp with h | h | h | h | h | h | h
        · exact .inr (.inl h)
        · exact .inr (.inr (.inl h))
        · exact .inr (.inr (.inr (.inl h)))
        · exact .inr (.inr (.inr (.inr (.inl h))))
        · exact .inr (.inr (.inr (.inr (.inr (.inl h)))))
        · exact .inl h
        · exact .inr (.inr (.inr (.inr (.inr (.inr h)))))
      · rcases List.mem_append.mp hp with hp | hp
        · exact off p (List.mem_append_left _ hp)
        · rcases List.mem_cons.mp hp with rfl | hp
          · exact ⟨o1, o2, o3, o4⟩
          · exact off p (List.mem_append_right _ hp)
  have := key n 0 [] [] (by omega) ⟨[], rfl, rfl, fun j hj => absurd hj (Nat.not_lt_zero _)⟩
  rwa [List.append_nil] at this
end

end
section
section
variable {prog : Program} {w : World} {A : Around} {h₀ : Heap} {L : Addr} {m : PySem.Str → Option Value} {env : Env} {elt : PySem.Expr} {x : PySem.Str} {scope : Scope} {cl : List (PySem.Str × Addr)} {s : Shared} {S : List (Addr × Obj) → Prop} {P : Nat → Value → Prop} {Fin : List Value → List (Addr × Obj) → Prop} {news : List (Addr × Obj)}
theorem comp_gen0 {n : Nat} {ks : List Int} (Pk : Int → Value → Prop) (Z : List Value → List Int → Prop) (El : Int → Value → Prop) (hn : ks.length = n) (hP : ∀ i v, i < n → P i v → ∃ k, ks[i]? = some k ∧ Pk k v) (z0 : Z [] [])
    (z1 : ∀ zs l k y, Z zs l → El k y → Z (zs ++ [y]) (l ++ [k])) (hS : S news)
    (turn : ∀ k v I oI C oC D m₂ zs l h tk (E' : Value → Shared → Prop), KstMark → k ∈ ks → Pk k v → Z zs l → LCg.NsObj oC m₂ → m₂ x = some v → Fr h₀ L h m → News h₀ L h ((I, oI) :: (C, oC) :: (D, LCg.lst zs) :: news) → LCg.Off3 I C D news → ((@Ne Nat I C) ∧ (@Ne Nat I D) ∧ (@Ne Nat C D)) →
      wpAny (model prog w) A (eval elt (compEnvC scope cl C env)) (TEl h₀ L m ((I, oI) :: (C, oC) :: (D, LCg.lst zs) :: news) { s with heap := h, toks := tk } (El k)) E' { s with heap := h, toks := tk })
    (fin : ∀ zs, Z zs ks → Fin zs news) : LCg.CompRest prog w A h₀ L m env elt x scope cl s S P Fin n 0 [] news := by
  have key : ∀ (j i : Nat) (zs : List Value), i + j = n → Z zs (ks.take i) → LCg.CompRest prog w A h₀ L m env elt x scope cl s S P Fin j i zs news := by
    intro j
    induction j with
    | zero =>
      intro i zs hi hz
      have e : i = ks.length := by omega
      subst e
      rw [List.take_length] at hz
      exact fin zs hz
    | succ j ih =>
      intro i zs hi hz v I oI C oC D m₂ h tk E' hv hC hx F N off ne
      obtain ⟨k, hk, hp⟩ := hP i v (by omega) hv
      have hs : ks.take (i + 1) = ks.take i ++ [k] := by rw [List.take_add_one, hk]; rfl
      refine wpAny_mono (turn k v I oI C oC D m₂ zs _ h tk E' kstMark (List.mem_of_getElem? hk) hp hz hC hx F N off ne) (fun y s₃ hr => ?_) fun _ _ e => e
      obtain ⟨h', tk', e, F', N', he⟩ := hr
      refine ⟨h', tk', news, e, F', N', off, hS, ih (i + 1) _ (by omega) ?_⟩
      rw [hs]
      exact z1 _ _ _ _ hz he
  exact key n 0 [] (by omega) (by simpa using z0)
end
noncomputable def ElA (i : Int) (k : Int) (y : Value) : Prop := ∃ u, y = .int (apF i k) u
noncomputable def ZA (i : Int) (zs : List Value) (l : List Int) : Prop := IntsAre zs (l.map (apF i))
theorem za1 (i : Int) (zs : List Value) (l : List Int) (k : Int) (y : Value) (h : ZA i zs l) (e : ElA i k y) : ZA i (zs ++ [y]) (l ++ [k]) := by
  obtain ⟨u, rfl⟩ := e
  unfold ZA at h ⊢
  rw [List.map_append]
  exact h.append (.cons _ u .nil)
theorem word_list : wordL = (rangeKs 0 8).map wordF := by decide +kernel
theorem zw_words {wvs : List Value} (h : StrsAre wvs wordL) : ZW wvs (rangeKs 0 8) := by unfold ZW; rw [← word_list]; exact h
/-- the table -/
noncomputable def rowF (i : Nat) : List Int := (rangeKs 0 8).map (apF (i : Int))
theorem pw_nat {wvs : List Value} (h : StrsAre wvs wordL) (i : Nat) (v : Value) (e : wvs.toArray[i]? = some v) : i < 8 ∧ ∃ t, v = .str (wordF (i : Int)) t := by
  have e' : wvs[i]? = some v := by simpa using e
  have hi : i < wvs.length := (List.getElem?_eq_some_iff.mp e').1
  have hl : wvs.length = 8 := h.length
  obtain ⟨k, hk, u, hv⟩ := pw_at (zw_words h) i v (by simpa using hi) e
  have hi8 : i < 8 := by omega
  have ek : (rangeKs 0 8)[i]? = some (0 + (i : Int)) := by simp [rangeKs, hi8]
  rw [ek] at hk
  have : k = (i : Int) := by have := Option.some.inj hk; omega
  subst this
  exact ⟨hi8, u, hv⟩

end
section
section
open LCg
variable {prog : Program} {w : World} {A : Around} {E : Value → Shared → Prop} {s : Shared} {h₀ : Heap} {L : Addr} {m : PySem.Str → Option Value} {env : Env}
theorem ListComp_CF (_F₀ : Fr h₀ L s.heap m) {elt iter : PySem.Expr} {x a0 b0 : PySem.Str} {px : Pos} {scope : Scope} {cl : List (PySem.Str × Addr)} {pos : Pos} {Q : Value → Shared → Prop}
    (hclos : closureFor scope env = pure cl) (hnm : scope.names = [(a0, .local), (x, .cell), (b0, .free)]) (hkind : scope.kind = .function) (hkx : ∀ C cells, (compEnvC scope cells C env).kindOf x = some .cell)
    (hnames : ∀ y ∈ scope.names, y.2 = .local → scope.names.lookup y.1 = some .local)
    (h : wpAny (model prog w) A (eval iter env) (SrcC prog w A h₀ L m env elt x scope cl Q) E s)
    (hs : ∀ x, foldedSetIterable iter env x = pure x := by intro _; rfl) :
    wpAny (model prog w) A (eval (.ListComp elt [⟨.Name x px, iter, [], 0⟩] scope pos) env) Q E s := ListComp_C hclos hnm hkind hkx hnames h hs
end
section
open LCg
variable {prog : Program} {w : World} {A : Around} {E : Value → Shared → Prop} {s : Shared} {h₀ : Heap} {L : Addr} {m : PySem.Str → Option Value} {env : Env}
/-- the end of a row's turn -/
noncomputable def RowEnd (h₀ : Heap) (L : Addr) (m : PySem.Str → Option Value) (s : Shared) (led : List (Addr × Obj)) (is : List Int) (y : Value) (s₄ : Shared) : Prop :=
  ∃ r zs h' tk', y = .ref r ∧ s₄ = { s with heap := h', toks := tk' } ∧ IntsAre zs is ∧ Fr h₀ L h' m ∧ News h₀ L h' ((r, lst zs) :: led) ∧ (∀ p ∈ led, p.1 ≠ r)
theorem rowEnd {h' : Heap} {tk' : Nat} {led : List (Addr × Obj)} {is : List Int} {zs : List Value} {r : Addr} (hi : IntsAre zs is) (F : Fr h₀ L h' m) (N : News h₀ L h' ((r, lst zs) :: led)) (o : ∀ p ∈ led, p.1 ≠ r) : RowEnd h₀ L m s led is (.ref r) { s with heap := h', toks := tk' } := ⟨r, zs, h', tk', rfl, rfl, hi, F, N, o⟩
theorem comp_rows2 {elt : PySem.Expr} {x : PySem.Str} {scope : Scope} {cl : List (PySem.Str × Addr)} {S : List (Addr × Obj) → Prop} {P : Nat → Value → Prop} {Fin : List Value → List (Addr × Obj) → Prop} {n : Nat} {news : List (Addr × Obj)} (f : Nat → List Int) (hS : ∀ rows, S (news ++ rows))
    (turn : ∀ i v rows I oI C oC cc occ D ys h tk (E' : Value → Shared → Prop), KstMark → i < n → P i v → occ.data = .cell (some v) → Fr h₀ L h m → News h₀ L h ((I, oI) :: (C, oC) :: (cc, occ) :: (D, lst ys) :: (news ++ rows)) → ((@Ne Nat I C) ∧ (@Ne Nat I cc) ∧ (@Ne Nat I D) ∧ (@Ne Nat C cc) ∧ (@Ne Nat C D) ∧ (@Ne Nat cc D)) →
      wpAny (model prog w) A (eval elt (compEnvC scope ((x, cc) :: cl) C env)) (RowEnd h₀ L m s ((I, oI) :: (C, oC) :: (cc, occ) :: (D, lst ys) :: (news ++ rows)) (f i)) E' { s with heap := h, toks := tk })
    (fin : ∀ ys rows, KstMark → OwnOff rows (news.map (·.1)) → RowsL f rows ys n → Fin ys (news ++ rows)) : CRestC prog w A h₀ L m env elt x scope cl s S P Fin n 0 [] news := by
  have key : ∀ (j i : Nat) (ys : List Value) (rows : List (Addr × Obj)), i + j = n → OwnOff rows (news.map (·.1)) → RowsL f rows ys i → CRestC prog w A h₀ L m env elt x scope cl s S P Fin j i ys (news ++ rows) := by
    intro j
    induction j with
    | zero =>
      intro i ys rows hi ho hz
      have e : i = n := by omega
      subst e
      exact fin ys rows kstMark ho hz
    | succ j ih =>
      intro i ys rows hi ho hz v I oI C oC cc occ D h tk E' hv hd F N off ne
      refine wpAny_mono (turn i v rows I oI C oC cc occ D ys h tk E' kstMark (by omega) hv hd F N ne) (fun y s₄ q => ?_) fun _ _ e => e
      obtain ⟨r, zs, h', tk', rfl, rfl, hzs, F', N', o0⟩ := q
      have o1 := Ne.symm (o0 _ (.head _))
      have o2 := Ne.symm (o0 _ (.tail _ (.head _)))
      have o3 := Ne.symm (o0 _ (.tail _ (.tail _ (.head _))))
      have o4 := Ne.symm (o0 _ (.tail _ (.tail _ (.tail _ (.head _)))))
      refine ⟨h', tk', news ++ (r, lst zs) :: rows, rfl, F', fun p hp => N' p ?_, fun p hp => ?_, hS _, ih (i + 1) _ ((r, lst zs) :: rows) (by omega) (fun p hp b hb => ?_) (rowsL_snoc hz hzs)⟩
      · simp only [List.mem_cons, List.mem_append] at hp ⊢
        rcases hp with h | h | h | h | h | h | h
        · exact .inr (.inl h)
        · exact .inr (.inr (.inl h))
        · exact .inr (.inr (.inr (.inl h)))
        · exact .inr (.inr (.inr (.inr (.inl h))))
        · exact .inr (.inr (.inr (.inr (.inr (.inl h)))))
        · exact .inl h
        · exact .inr (.inr (.inr (.inr (.inr (.inr h)))))
      · rcases List.mem_append.mp hp with hp | hp
        · exact off p (List.mem_append_left _ hp)
        · rcases List.mem_cons.mp hp with rfl | hp
          · exact ⟨o1, o2, o3, o4⟩
          · exact off p (List.mem_append_right _ hp)
      · rcases List.mem_cons.mp hp with rfl | hp
        · obtain ⟨q, hq, rfl⟩ := List.mem_map.mp hb
          exact Ne.symm (o0 q (.tail _ (.tail _ (.tail _ (.tail _ (List.mem_append_left _ hq))))))
        · exact ho p hp b hb
  have := key n 0 [] [] (by omega) (fun p hp => by cases hp) ⟨[], rfl, rfl, fun j hj => absurd hj (Nat.not_lt_zero _)⟩
  rwa [List.append_nil] at this
end
theorem own_cons {own : List (Addr × Obj)} {as : List Addr} {d : Addr} (h : OwnOff own as) (k : ∀ p ∈ own, p.1 ≠ d) : OwnOff own (d :: as) := fun p hp b hb => by
  rcases List.mem_cons.mp hb with rfl | hb
  · exact k p hp
  · exact h p hp b hb
/-- the rows of the table stand in the heap -/
theorem rows_in {f : Nat → List Int} {rows news : List (Addr × Obj)} {ys : List Value} {R : Addr} (q : RowsL f rows ys 8) (hm : (R, LCg.lst ys) ∈ news) (hr : ∀ p ∈ rows, p ∈ news) : ∃ rs : List Addr, ys = rs.map Value.ref ∧ (∀ r ∈ rs, ∃ p ∈ rows, p.1 = r) ∧ ∀ g, (∀ p ∈ news, g.get? p.1 = some p.2) → RowsIn g R rs ((List.range 8).map f) := by
  obtain ⟨rs, e, l, k⟩ := q
  refine ⟨rs, e, fun r hr' => ?_, fun g hg => ⟨⟨_, by rw [← e]; exact hg _ hm⟩, by rw [l]; rfl, fun j hj => ?_⟩⟩
  · obtain ⟨j, hj, rfl⟩ := List.getElem_of_mem hr'
    obtain ⟨zs, m1, _⟩ := k j (by omega)
    refine ⟨_, m1, ?_⟩
    rw [List.getD_eq_getElem?_getD, List.getElem?_eq_getElem hj]; rfl
  · have hj8 : j < 8 := by simpa using hj
    obtain ⟨zs, m1, m2⟩ := k j hj8
    refine ⟨zs, _, hg _ (hr _ m1), ?_⟩
    have e2 : ((List.range 8).map f).getD j [] = f j := by
      rw [List.getD_eq_getElem?_getD, List.getElem?_map, List.getElem?_range hj8]; rfl
    rw [e2]; exact m2
theorem gn_all {d : Addr} : ∀ {l : List (Addr × Obj)}, GnNe d l → ∀ p ∈ l, p.1 ≠ d
  | [], _, _, hp => (nomatch hp)
  | q :: r, h, p, hp => by
    rcases List.mem_cons.mp hp with rfl | hp
    · exact h.1
    · exact gn_all h.2 p hp
theorem off1_all {d : Addr} : ∀ {l : List (Addr × Obj)}, LCg.Off1 d l → ∀ p ∈ l, p.1 ≠ d
  | [], _, _, hp => (nomatch hp)
  | q :: r, h, p, hp => by
    rcases List.mem_cons.mp hp with rfl | hp
    · exact h.1
    · exact off1_all h.2 p hp
/-- none of these addresses is d -/
noncomputable def Apart (l : List Nat) (d : Nat) : Prop := ∀ a ∈ l, a ≠ d
theorem apart_of {d : Addr} {l : List (Addr × Obj)} (h : ∀ p ∈ l, p.1 ≠ d) : Apart (l.map (·.1)) d := fun a ha => by
  obtain ⟨p, hp, rfl⟩ := List.mem_map.mp ha
  exact h p hp
theorem apart_off {d : Addr} {l : List (Addr × Obj)} (h : LCg.Off1 d l) : Apart (l.map (·.1)) d := apart_of (off1_all h)
theorem apart_ne {l : List Nat} {d a : Nat} (h : Apart l d) (m : a ∈ l) : a ≠ d := h a m
theorem apart_en {l : List Nat} {d a : Nat} (h : Apart l d) (m : a ∈ l) : d ≠ a := Ne.symm (h a m)
theorem not_t {b : Bool} (h : b = false) : (!b) = true := by rw [h]; rfl
theorem not_f {b : Bool} (h : b = true) : (!b) = false := by rw [h]; rfl
theorem cl_uW {Pre : Heap → Prop} {e1 e2 e3 qy qr : Addr × Obj} {r : List (Addr × Obj)} {f : Addr} {dd du : Nat} {vs : List Value} {Ret : Addr → Value → List (Addr × Obj) → Prop}
    {dp un : Nat} {gd : Option (List Code)} {cn : Str} {cs : Scope} {a : Addr} {ccd : Value} {cl : List (Str × Addr)} {outer : List Env} {A₀ : Around} {base h₀ : Heap} {L : Addr} {m : Str → Option Value} {s : Shared} {Q E : Value → Shared → Prop}
    (C : ClP w p loose mean mg mb Pre f dd du vs [qr, qy] Ret) (P : Pre s.heap)
    (B : Below A₀ base outer h₀) (CD : Cds base) (F : Fr h₀ L s.heap m) (X : (hd.heap_39 w.params).In h₀) (N : News h₀ L s.heap (e1 :: e2 :: e3 :: qy :: qr :: r)) (O : Off [qr, qy] (e1 :: e2 :: e3 :: r)) (T : Top p loose mean mg mb h₀) (hk : cs.kind = .function)
    (hd : dp + dd < recursionLimit) (hu : un + du < cLine)
    (ret : ∀ lim v vis' h' tk', (∀ q ∈ e1 :: e2 :: e3 :: qy :: qr :: r, q.1 < lim) → Ret lim v vis' → Fr h₀ L h' m → News h₀ L h' (vis' ++ (e1 :: e2 :: e3 :: r)) → Q v { s with heap := h', toks := tk' }) :
    wpAny (model PySem.Challenge.rw_sn0086_01.row.prog w) (ktrTop dp un gd cn cs L a ccd cl outer) (call (.ref f) vs) Q E s :=
  cl_useP C P B CD F X N (fun q hq => by
    simp only [List.mem_append, List.mem_cons, List.not_mem_nil, or_false] at hq ⊢
    rcases hq with hq | hq
    · rcases hq with h | h <;> simp [h]
    · rcases hq with h | h | h | h <;> simp [h]) O T hk hd hu ret
theorem rows_off {rows : List (Addr × Obj)} {rs as : List Addr} {R d e : Addr} (hrs : ∀ r ∈ rs, ∃ p ∈ rows, p.1 = r) (h : OwnOff rows as) (m1 : d ∈ as) (m2 : e ∈ as) (n1 : @Ne Nat R d) (n2 : @Ne Nat R e) : ∀ r ∈ R :: rs, @Ne Nat r d ∧ @Ne Nat r e := fun r hr => by
  rcases List.mem_cons.mp hr with rfl | hr
  · exact ⟨n1, n2⟩
  · obtain ⟨p, hp, rfl⟩ := hrs r hr
    exact ⟨h p hp _ m1, h p hp _ m2⟩
theorem rows_at {h₀ h : Heap} {L : Addr} {news : List (Addr × Obj)} {q : Addr × Obj} {rows : List (Addr × Obj)} (N : News h₀ L h news) (m : q ∈ news) (hr : ∀ p ∈ rows, p ∈ news) : ∀ p ∈ q :: rows, h.get? p.1 = some p.2 := fun p hp => by
  rcases List.mem_cons.mp hp with rfl | hp
  · exact (N _ m).1
  · exact (N p (hr p hp)).1
theorem off3_ap {I C D : Addr} {l : List (Addr × Obj)} (h : LCg.Off3 I C D l) : Apart (l.map (·.1)) I ∧ Apart (l.map (·.1)) C ∧ Apart (l.map (·.1)) D :=
  ⟨apart_of fun p hp => (h.mem p hp).1, apart_of fun p hp => (h.mem p hp).2.1, apart_of fun p hp => (h.mem p hp).2.2⟩
theorem cl_uF {e1 e2 e3 e4 e5 e6 e7 qw qr qy : Addr × Obj} {r : List (Addr × Obj)} {f : Addr} {dd du : Nat} {vs : List Value} {Ret : Addr → Value → List (Addr × Obj) → Prop}
    {dp un : Nat} {gd : Option (List Code)} {cn : Str} {cs : Scope} {a : Addr} {ccd : Value} {cl : List (Str × Addr)} {outer : List Env} {A₀ : Around} {base h₀ : Heap} {L : Addr} {m : Str → Option Value} {s : Shared} {Q E : Value → Shared → Prop}
    (C : Cl w p loose mean mg mb f dd du vs [qw, qr, qy] Ret)
    (B : Below A₀ base outer h₀) (CD : Cds base) (F : Fr h₀ L s.heap m) (X : (hd.heap_39 w.params).In h₀) (N : News h₀ L s.heap (e1 :: e2 :: e3 :: e4 :: qy :: qw :: e5 :: e6 :: e7 :: qr :: r)) (O : Off [qw, qr, qy] (e1 :: e2 :: e3 :: e4 :: e5 :: e6 :: e7 :: r)) (T : Top p loose mean mg mb h₀) (hk : cs.kind = .function)
    (hd : dp + dd < recursionLimit) (hu : un + du < cLine)
    (ret : ∀ lim v vis' h' tk', (∀ q ∈ e1 :: e2 :: e3 :: e4 :: qy :: qw :: e5 :: e6 :: e7 :: qr :: r, q.1 < lim) → Ret lim v vis' → Fr h₀ L h' m → News h₀ L h' (vis' ++ (e1 :: e2 :: e3 :: e4 :: e5 :: e6 :: e7 :: r)) → Q v { s with heap := h', toks := tk' }) :
    wpAny (model PySem.Challenge.rw_sn0086_01.row.prog w) (ktrTop dp un gd cn cs L a ccd cl outer) (call (.ref f) vs) Q E s :=
  cl_use C B CD F X N (fun q hq => by
    simp only [List.mem_append, List.mem_cons, List.not_mem_nil, or_false] at hq ⊢
    rcases hq with hq | hq
    · rcases hq with h | h | h <;> simp [h]
    · rcases hq with h | h | h | h | h | h | h | h <;> simp [h]) O T hk hd hu ret
theorem due_clN (x : Int) (hx : 0 ≤ x ∧ x < 65536) (ta tb : Tok) :
    Cl w p loose mean mg mb 326 20 120 [.int (x.fdiv (2 ^ Int.toNat 8)) ta, .int (Builtin.bitAnd x 255) tb] [] (RDue (x.fdiv 256) (x.fmod 256)) := by
  have e1 : x.fdiv (2 ^ Int.toNat 8) = x.fdiv 256 := rfl
  have e2 : Builtin.bitAnd x 255 = x.fmod 256 := by rw [bitAnd_m8, Int.fmod_eq_emod_of_nonneg _ (by decide)]
  rw [e1, e2]
  refine due_cl _ _ _ _ ?_ ?_
  · rw [Int.fdiv_eq_ediv_of_nonneg _ (by decide)]; omega
  · rw [Int.fmod_eq_emod_of_nonneg _ (by decide)]; omega
theorem pe_eqvAll : ∀ ns : List Int, PyData.eqvAll (ns.map PyData.int) (ns.map PyData.int) = true
  | [] => by simp [PyData.eqvAll]
  | a :: r => by simp [PyData.eqvAll, PyData.eqv, pe_eqvAll r]
theorem pe_canLay : ∀ ns : List Int, PyData.canLayAll0 (ns.map PyData.int) = true
  | [] => rfl
  | a :: r => by simp [PyData.canLayAll0, PyData.canLay0, pe_canLay r]
theorem pe_depth : ∀ ns : List Int, PyData.depthAll (ns.map PyData.int) = 0
  | [] => rfl
  | _ :: r => by simp [PyData.depthAll, PyData.depth, pe_depth r]
theorem pe_carried : ∀ {vs : List Value} {ns : List Int}, IntsAre vs ns → CarriedAll vs (ns.map PyData.int)
  | _, _, .nil => .nil
  | _, _, .cons _ t r => .cons (.int _ t) (pe_carried r)
/-- two pairs of lists of the same ints are equal -/
theorem pair_eq {prog : Program} {A : Around} {E : Value → Shared → Prop} {s : Shared} {h₀ : Heap} {L : Addr} {news : List (Addr × Obj)} {a b a1 a2 b1 b2 : Addr} {oa ob oa1 oa2 ob1 ob2 : Obj} {ka kb ka1 ka2 kb1 kb2 : Nat} {v1 v2 u1 u2 : List Value} {V M : List Int} {Q : Value → Shared → Prop}
    (N : News h₀ L s.heap news) (ma : (a, oa) ∈ news) (ca : oa.cls = .type "tuple") (da : oa.data = .seq #[.ref a1, .ref a2] ka) (mb : (b, ob) ∈ news) (cb : ob.cls = .type "tuple") (db : ob.data = .seq #[.ref b1, .ref b2] kb)
    (ma1 : (a1, oa1) ∈ news) (ca1 : oa1.cls = .type "list") (da1 : oa1.data = .seq v1.toArray ka1) (ma2 : (a2, oa2) ∈ news) (ca2 : oa2.cls = .type "list") (da2 : oa2.data = .seq v2.toArray ka2)
    (mb1 : (b1, ob1) ∈ news) (cb1 : ob1.cls = .type "list") (db1 : ob1.data = .seq u1.toArray kb1) (mb2 : (b2, ob2) ∈ news) (cb2 : ob2.cls = .type "list") (db2 : ob2.data = .seq u2.toArray kb2)
    (i1 : IntsAre v1 V) (i2 : IntsAre v2 M) (j1 : IntsAre u1 V) (j2 : IntsAre u2 M) (hu : A.units + 64 < cLine) (h : Q (.bool true) s) : wpAny (model prog w) A (compareOp .Eq (.ref a) (.ref b)) Q E s := by
  have sh : SeqAt.shaped (.tuple [.list (V.map PyData.int), .list (M.map PyData.int)]) = true := by
    simp [SeqAt.shaped, PyData.canLay0, PyData.canLayAll0, PyData.depth, PyData.depthAll, pe_canLay, pe_depth]
  have ee : PyData.eqv (.tuple [.list (V.map PyData.int), .list (M.map PyData.int)]) (.tuple [.list (V.map PyData.int), .list (M.map PyData.int)]) = true := by
    simp [PyData.eqv, PyData.eqvAll, pe_eqvAll]
  have R : ∀ (q q1 q2 : Addr) (o o1 o2 : Obj) (k k1 k2 : Nat) (w1 w2 : List Value), (q, o) ∈ news → o.cls = .type "tuple" → o.data = .seq #[.ref q1, .ref q2] k → (q1, o1) ∈ news → o1.cls = .type "list" → o1.data = .seq w1.toArray k1 → (q2, o2) ∈ news → o2.cls = .type "list" → o2.data = .seq w2.toArray k2 → IntsAre w1 V → IntsAre w2 M → ∃ as, Reads s.heap (.ref q) (.tuple [.list (V.map PyData.int), .list (M.map PyData.int)]) as := by
    intro q q1 q2 o o1 o2 k k1 k2 w1 w2 m c d m1 c1 d1 m2 c2 d2 x1 x2
    have r1 := reads_newData (h := s.heap) (D := q1) (ys := w1) ⟨o1, N.get m1, c1, k1, d1⟩ (pe_carried x1)
    have r2 := reads_newData (h := s.heap) (D := q2) (ys := w2) ⟨o2, N.get m2, c2, k2, d2⟩ (pe_carried x2)
    exact ⟨_, .tuple (N.get m) c d (.cons r1 (.cons r2 .nil))⟩
  obtain ⟨as, ra⟩ := R a a1 a2 oa oa1 oa2 ka ka1 ka2 v1 v2 ma ca da ma1 ca1 da1 ma2 ca2 da2 i1 i2
  obtain ⟨bs, rb⟩ := R b b1 b2 ob ob1 ob2 kb kb1 kb2 u1 u2 mb cb db mb1 cb1 db1 mb2 cb2 db2 j1 j2
  exact eq_dataH ra rb sh sh hu (by rw [ee]; exact h)
theorem news_rot {h₀ h : Heap} {L : Addr} {a b c d : Addr × Obj} {r : List (Addr × Obj)} (N : News h₀ L h (a :: b :: c :: d :: r)) : News h₀ L h (a :: b :: c :: r) ∧ News h₀ L h (a :: b :: c :: (r ++ [d])) := by
  refine ⟨fun p hp => N p ?_, fun p hp => N p ?_⟩
  · simp only [List.mem_cons] at hp ⊢
    rcases hp with h | h | h | h <;> simp [h]
  · simp only [List.mem_cons, List.mem_append, List.not_mem_nil, or_false] at hp ⊢
    rcases hp with h | h | h | h | h <;> simp [h]
theorem perm_w {e1 e2 e3 qy qr : Addr × Obj} {r : List (Addr × Obj)} : ∀ q ∈ e1 :: e2 :: e3 :: qy :: qr :: r, q ∈ qr :: qy :: e1 :: e2 :: e3 :: r := fun q h => by
  simp only [List.mem_cons] at h ⊢
  rcases h with h | h | h | h | h | h <;> simp [h]
theorem post_true (a b : List WData) : WTm.value PySem.Challenge.rw_sn0086_01.row.records PySem.Challenge.rw_sn0086_01.row.post { args := a, res := some (WData.bool true), after := b } = some (WData.bool true) := by
  first
  | (with_unfolding_all rfl)
  | (simp [PySem.Challenge.rw_sn0086_01, WTm.value]; done)

end
section
structure T8 where
  c1 : Nat
  c2 : Nat
  c3 : Nat
  c4 : Nat
  c5 : Nat
  c6 : Nat
  c7 : Nat
  me : Nat
  rev : Nat
  n : Nat
noncomputable def tabT : List T8 := [
  ⟨0, 0, 0, 0, 0, 0, 0, 0, 0, 0⟩, ⟨0, 0, 0, 0, 0, 0, 0, 1, 128, 1⟩, ⟨0, 0, 0, 0, 0, 0, 0, 2, 64, 1⟩, ⟨3, 0, 0, 0, 0, 0, 0, 3, 192, 2⟩, ⟨0, 0, 0, 0, 0, 0, 0, 4, 32, 1⟩, ⟨0, 5, 0, 0, 0, 0, 0, 5, 160, 2⟩, ⟨0, 0, 0, 0, 0, 0, 0, 6, 96, 2⟩, ⟨3, 5, 0, 0, 0, 0, 0, 7, 224, 3⟩,
  ⟨0, 0, 0, 0, 0, 0, 0, 8, 16, 1⟩, ⟨0, 0, 0, 0, 0, 0, 0, 9, 144, 2⟩, ⟨0, 10, 0, 0, 0, 0, 0, 10, 80, 2⟩, ⟨3, 10, 0, 0, 0, 0, 0, 11, 208, 3⟩, ⟨12, 0, 0, 0, 0, 0, 0, 12, 48, 2⟩, ⟨12, 5, 0, 0, 0, 0, 0, 13, 176, 3⟩, ⟨12, 10, 0, 0, 0, 0, 0, 14, 112, 3⟩, ⟨15, 15, 15, 0, 0, 0, 0, 15, 240, 4⟩,
  ⟨0, 0, 0, 0, 0, 0, 0, 16, 8, 1⟩, ⟨0, 0, 0, 17, 0, 0, 0, 17, 136, 2⟩, ⟨0, 0, 0, 0, 0, 0, 0, 18, 72, 2⟩, ⟨3, 0, 0, 17, 0, 0, 0, 19, 200, 3⟩, ⟨0, 0, 0, 0, 0, 0, 0, 20, 40, 2⟩, ⟨0, 5, 0, 17, 0, 0, 0, 21, 168, 3⟩, ⟨0, 0, 0, 0, 0, 0, 0, 22, 104, 3⟩, ⟨3, 5, 0, 17, 0, 0, 0, 23, 232, 4⟩,
  ⟨0, 0, 0, 0, 0, 0, 0, 24, 24, 2⟩, ⟨0, 0, 0, 17, 0, 0, 0, 25, 152, 3⟩, ⟨0, 10, 0, 0, 0, 0, 0, 26, 88, 3⟩, ⟨3, 10, 0, 17, 0, 0, 0, 27, 216, 4⟩, ⟨12, 0, 0, 0, 0, 0, 0, 28, 56, 3⟩, ⟨12, 5, 0, 17, 0, 0, 0, 29, 184, 4⟩, ⟨12, 10, 0, 0, 0, 0, 0, 30, 120, 4⟩, ⟨15, 15, 15, 17, 0, 0, 0, 31, 248, 5⟩,
  ⟨0, 0, 0, 0, 0, 0, 0, 32, 4, 1⟩, ⟨0, 0, 0, 0, 0, 0, 0, 33, 132, 2⟩, ⟨0, 0, 0, 34, 0, 0, 0, 34, 68, 2⟩, ⟨3, 0, 0, 34, 0, 0, 0, 35, 196, 3⟩, ⟨0, 0, 0, 0, 0, 0, 0, 36, 36, 2⟩, ⟨0, 5, 0, 0, 0, 0, 0, 37, 164, 3⟩, ⟨0, 0, 0, 34, 0, 0, 0, 38, 100, 3⟩, ⟨3, 5, 0, 34, 0, 0, 0, 39, 228, 4⟩,
  ⟨0, 0, 0, 0, 0, 0, 0, 40, 20, 2⟩, ⟨0, 0, 0, 0, 0, 0, 0, 41, 148, 3⟩, ⟨0, 10, 0, 34, 0, 0, 0, 42, 84, 3⟩, ⟨3, 10, 0, 34, 0, 0, 0, 43, 212, 4⟩, ⟨12, 0, 0, 0, 0, 0, 0, 44, 52, 3⟩, ⟨12, 5, 0, 0, 0, 0, 0, 45, 180, 4⟩, ⟨12, 10, 0, 34, 0, 0, 0, 46, 116, 4⟩, ⟨15, 15, 15, 34, 0, 0, 0, 47, 244, 5⟩,
  ⟨48, 0, 0, 0, 0, 0, 0, 48, 12, 2⟩, ⟨48, 0, 0, 17, 0, 0, 0, 49, 140, 3⟩, ⟨48, 0, 0, 34, 0, 0, 0, 50, 76, 3⟩, ⟨51, 0, 0, 51, 51, 0, 0, 51, 204, 4⟩, ⟨48, 0, 0, 0, 0, 0, 0, 52, 44, 3⟩, ⟨48, 5, 0, 17, 0, 0, 0, 53, 172, 4⟩, ⟨48, 0, 0, 34, 0, 0, 0, 54, 108, 4⟩, ⟨51, 5, 0, 51, 51, 0, 0, 55, 236, 5⟩,
  ⟨48, 0, 0, 0, 0, 0, 0, 56, 28, 3⟩, ⟨48, 0, 0, 17, 0, 0, 0, 57, 156, 4⟩, ⟨48, 10, 0, 34, 0, 0, 0, 58, 92, 4⟩, ⟨51, 10, 0, 51, 51, 0, 0, 59, 220, 5⟩, ⟨60, 0, 0, 0, 0, 0, 0, 60, 60, 4⟩, ⟨60, 5, 0, 17, 0, 0, 0, 61, 188, 5⟩, ⟨60, 10, 0, 34, 0, 0, 0, 62, 124, 5⟩, ⟨63, 15, 15, 51, 51, 0, 0, 63, 252, 6⟩,
  ⟨0, 0, 0, 0, 0, 0, 0, 64, 2, 1⟩, ⟨0, 0, 0, 0, 0, 0, 0, 65, 130, 2⟩, ⟨0, 0, 0, 0, 0, 0, 0, 66, 66, 2⟩, ⟨3, 0, 0, 0, 0, 0, 0, 67, 194, 3⟩, ⟨0, 0, 0, 68, 0, 0, 0, 68, 34, 2⟩, ⟨0, 5, 0, 68, 0, 0, 0, 69, 162, 3⟩, ⟨0, 0, 0, 68, 0, 0, 0, 70, 98, 3⟩, ⟨3, 5, 0, 68, 0, 0, 0, 71, 226, 4⟩,
  ⟨0, 0, 0, 0, 0, 0, 0, 72, 18, 2⟩, ⟨0, 0, 0, 0, 0, 0, 0, 73, 146, 3⟩, ⟨0, 10, 0, 0, 0, 0, 0, 74, 82, 3⟩, ⟨3, 10, 0, 0, 0, 0, 0, 75, 210, 4⟩, ⟨12, 0, 0, 68, 0, 0, 0, 76, 50, 3⟩, ⟨12, 5, 0, 68, 0, 0, 0, 77, 178, 4⟩, ⟨12, 10, 0, 68, 0, 0, 0, 78, 114, 4⟩, ⟨15, 15, 15, 68, 0, 0, 0, 79, 242, 5⟩,
  ⟨0, 80, 0, 0, 0, 0, 0, 80, 10, 2⟩, ⟨0, 80, 0, 17, 0, 0, 0, 81, 138, 3⟩, ⟨0, 80, 0, 0, 0, 0, 0, 82, 74, 3⟩, ⟨3, 80, 0, 17, 0, 0, 0, 83, 202, 4⟩, ⟨0, 80, 0, 68, 0, 0, 0, 84, 42, 3⟩, ⟨0, 85, 0, 85, 0, 85, 0, 85, 170, 4⟩, ⟨0, 80, 0, 68, 0, 0, 0, 86, 106, 4⟩, ⟨3, 85, 0, 85, 0, 85, 0, 87, 234, 5⟩,
  ⟨0, 80, 0, 0, 0, 0, 0, 88, 26, 3⟩, ⟨0, 80, 0, 17, 0, 0, 0, 89, 154, 4⟩, ⟨0, 90, 0, 0, 0, 0, 0, 90, 90, 4⟩, ⟨3, 90, 0, 17, 0, 0, 0, 91, 218, 5⟩, ⟨12, 80, 0, 68, 0, 0, 0, 92, 58, 4⟩, ⟨12, 85, 0, 85, 0, 85, 0, 93, 186, 5⟩, ⟨12, 90, 0, 68, 0, 0, 0, 94, 122, 5⟩, ⟨15, 95, 15, 85, 0, 85, 0, 95, 250, 6⟩,
  ⟨0, 0, 0, 0, 0, 0, 0, 96, 6, 2⟩, ⟨0, 0, 0, 0, 0, 0, 0, 97, 134, 3⟩, ⟨0, 0, 0, 34, 0, 0, 0, 98, 70, 3⟩, ⟨3, 0, 0, 34, 0, 0, 0, 99, 198, 4⟩, ⟨0, 0, 0, 68, 0, 0, 0, 100, 38, 3⟩, ⟨0, 5, 0, 68, 0, 0, 0, 101, 166, 4⟩, ⟨0, 0, 0, 102, 0, 0, 0, 102, 102, 4⟩, ⟨3, 5, 0, 102, 0, 0, 0, 103, 230, 5⟩,
  ⟨0, 0, 0, 0, 0, 0, 0, 104, 22, 3⟩, ⟨0, 0, 0, 0, 0, 0, 0, 105, 150, 4⟩, ⟨0, 10, 0, 34, 0, 0, 0, 106, 86, 4⟩, ⟨3, 10, 0, 34, 0, 0, 0, 107, 214, 5⟩, ⟨12, 0, 0, 68, 0, 0, 0, 108, 54, 4⟩, ⟨12, 5, 0, 68, 0, 0, 0, 109, 182, 5⟩, ⟨12, 10, 0, 102, 0, 0, 0, 110, 118, 5⟩, ⟨15, 15, 15, 102, 0, 0, 0, 111, 246, 6⟩,
  ⟨48, 80, 0, 0, 0, 0, 0, 112, 14, 3⟩, ⟨48, 80, 0, 17, 0, 0, 0, 113, 142, 4⟩, ⟨48, 80, 0, 34, 0, 0, 0, 114, 78, 4⟩, ⟨51, 80, 0, 51, 51, 0, 0, 115, 206, 5⟩, ⟨48, 80, 0, 68, 0, 0, 0, 116, 46, 4⟩, ⟨48, 85, 0, 85, 0, 85, 0, 117, 174, 5⟩, ⟨48, 80, 0, 102, 0, 0, 0, 118, 110, 5⟩, ⟨51, 85, 0, 119, 51, 85, 0, 119, 238, 6⟩,
  ⟨48, 80, 0, 0, 0, 0, 0, 120, 30, 4⟩, ⟨48, 80, 0, 17, 0, 0, 0, 121, 158, 5⟩, ⟨48, 90, 0, 34, 0, 0, 0, 122, 94, 5⟩, ⟨51, 90, 0, 51, 51, 0, 0, 123, 222, 6⟩, ⟨60, 80, 0, 68, 0, 0, 0, 124, 62, 5⟩, ⟨60, 85, 0, 85, 0, 85, 0, 125, 190, 6⟩, ⟨60, 90, 0, 102, 0, 0, 0, 126, 126, 6⟩, ⟨63, 95, 15, 119, 51, 85, 0, 127, 254, 7⟩,
  ⟨0, 0, 0, 0, 0, 0, 0, 128, 1, 1⟩, ⟨0, 0, 0, 0, 0, 0, 0, 129, 129, 2⟩, ⟨0, 0, 0, 0, 0, 0, 0, 130, 65, 2⟩, ⟨3, 0, 0, 0, 0, 0, 0, 131, 193, 3⟩, ⟨0, 0, 0, 0, 0, 0, 0, 132, 33, 2⟩, ⟨0, 5, 0, 0, 0, 0, 0, 133, 161, 3⟩, ⟨0, 0, 0, 0, 0, 0, 0, 134, 97, 3⟩, ⟨3, 5, 0, 0, 0, 0, 0, 135, 225, 4⟩,
  ⟨0, 0, 0, 136, 0, 0, 0, 136, 17, 2⟩, ⟨0, 0, 0, 136, 0, 0, 0, 137, 145, 3⟩, ⟨0, 10, 0, 136, 0, 0, 0, 138, 81, 3⟩, ⟨3, 10, 0, 136, 0, 0, 0, 139, 209, 4⟩, ⟨12, 0, 0, 136, 0, 0, 0, 140, 49, 3⟩, ⟨12, 5, 0, 136, 0, 0, 0, 141, 177, 4⟩, ⟨12, 10, 0, 136, 0, 0, 0, 142, 113, 4⟩, ⟨15, 15, 15, 136, 0, 0, 0, 143, 241, 5⟩,
  ⟨0, 0, 0, 0, 0, 0, 0, 144, 9, 2⟩, ⟨0, 0, 0, 17, 0, 0, 0, 145, 137, 3⟩, ⟨0, 0, 0, 0, 0, 0, 0, 146, 73, 3⟩, ⟨3, 0, 0, 17, 0, 0, 0, 147, 201, 4⟩, ⟨0, 0, 0, 0, 0, 0, 0, 148, 41, 3⟩, ⟨0, 5, 0, 17, 0, 0, 0, 149, 169, 4⟩, ⟨0, 0, 0, 0, 0, 0, 0, 150, 105, 4⟩, ⟨3, 5, 0, 17, 0, 0, 0, 151, 233, 5⟩,
  ⟨0, 0, 0, 136, 0, 0, 0, 152, 25, 3⟩, ⟨0, 0, 0, 153, 0, 0, 0, 153, 153, 4⟩, ⟨0, 10, 0, 136, 0, 0, 0, 154, 89, 4⟩, ⟨3, 10, 0, 153, 0, 0, 0, 155, 217, 5⟩, ⟨12, 0, 0, 136, 0, 0, 0, 156, 57, 4⟩, ⟨12, 5, 0, 153, 0, 0, 0, 157, 185, 5⟩, ⟨12, 10, 0, 136, 0, 0, 0, 158, 121, 5⟩, ⟨15, 15, 15, 153, 0, 0, 0, 159, 249, 6⟩,
  ⟨0, 160, 0, 0, 0, 0, 0, 160, 5, 2⟩, ⟨0, 160, 0, 0, 0, 0, 0, 161, 133, 3⟩, ⟨0, 160, 0, 34, 0, 0, 0, 162, 69, 3⟩, ⟨3, 160, 0, 34, 0, 0, 0, 163, 197, 4⟩, ⟨0, 160, 0, 0, 0, 0, 0, 164, 37, 3⟩, ⟨0, 165, 0, 0, 0, 0, 0, 165, 165, 4⟩, ⟨0, 160, 0, 34, 0, 0, 0, 166, 101, 4⟩, ⟨3, 165, 0, 34, 0, 0, 0, 167, 229, 5⟩,
  ⟨0, 160, 0, 136, 0, 0, 0, 168, 21, 3⟩, ⟨0, 160, 0, 136, 0, 0, 0, 169, 149, 4⟩, ⟨0, 170, 0, 170, 0, 170, 0, 170, 85, 4⟩, ⟨3, 170, 0, 170, 0, 170, 0, 171, 213, 5⟩, ⟨12, 160, 0, 136, 0, 0, 0, 172, 53, 4⟩, ⟨12, 165, 0, 136, 0, 0, 0, 173, 181, 5⟩, ⟨12, 170, 0, 170, 0, 170, 0, 174, 117, 5⟩, ⟨15, 175, 15, 170, 0, 170, 0, 175, 245, 6⟩,
  ⟨48, 160, 0, 0, 0, 0, 0, 176, 13, 3⟩, ⟨48, 160, 0, 17, 0, 0, 0, 177, 141, 4⟩, ⟨48, 160, 0, 34, 0, 0, 0, 178, 77, 4⟩, ⟨51, 160, 0, 51, 51, 0, 0, 179, 205, 5⟩, ⟨48, 160, 0, 0, 0, 0, 0, 180, 45, 4⟩, ⟨48, 165, 0, 17, 0, 0, 0, 181, 173, 5⟩, ⟨48, 160, 0, 34, 0, 0, 0, 182, 109, 5⟩, ⟨51, 165, 0, 51, 51, 0, 0, 183, 237, 6⟩,
  ⟨48, 160, 0, 136, 0, 0, 0, 184, 29, 4⟩, ⟨48, 160, 0, 153, 0, 0, 0, 185, 157, 5⟩, ⟨48, 170, 0, 170, 0, 170, 0, 186, 93, 5⟩, ⟨51, 170, 0, 187, 51, 170, 0, 187, 221, 6⟩, ⟨60, 160, 0, 136, 0, 0, 0, 188, 61, 5⟩, ⟨60, 165, 0, 153, 0, 0, 0, 189, 189, 6⟩, ⟨60, 170, 0, 170, 0, 170, 0, 190, 125, 6⟩, ⟨63, 175, 15, 187, 51, 170, 0, 191, 253, 7⟩,
  ⟨192, 0, 0, 0, 0, 0, 0, 192, 3, 2⟩, ⟨192, 0, 0, 0, 0, 0, 0, 193, 131, 3⟩, ⟨192, 0, 0, 0, 0, 0, 0, 194, 67, 3⟩, ⟨195, 0, 0, 0, 0, 0, 0, 195, 195, 4⟩, ⟨192, 0, 0, 68, 0, 0, 0, 196, 35, 3⟩, ⟨192, 5, 0, 68, 0, 0, 0, 197, 163, 4⟩, ⟨192, 0, 0, 68, 0, 0, 0, 198, 99, 4⟩, ⟨195, 5, 0, 68, 0, 0, 0, 199, 227, 5⟩,
  ⟨192, 0, 0, 136, 0, 0, 0, 200, 19, 3⟩, ⟨192, 0, 0, 136, 0, 0, 0, 201, 147, 4⟩, ⟨192, 10, 0, 136, 0, 0, 0, 202, 83, 4⟩, ⟨195, 10, 0, 136, 0, 0, 0, 203, 211, 5⟩, ⟨204, 0, 0, 204, 204, 0, 0, 204, 51, 4⟩, ⟨204, 5, 0, 204, 204, 0, 0, 205, 179, 5⟩, ⟨204, 10, 0, 204, 204, 0, 0, 206, 115, 5⟩, ⟨207, 15, 15, 204, 204, 0, 0, 207, 243, 6⟩,
  ⟨192, 80, 0, 0, 0, 0, 0, 208, 11, 3⟩, ⟨192, 80, 0, 17, 0, 0, 0, 209, 139, 4⟩, ⟨192, 80, 0, 0, 0, 0, 0, 210, 75, 4⟩, ⟨195, 80, 0, 17, 0, 0, 0, 211, 203, 5⟩, ⟨192, 80, 0, 68, 0, 0, 0, 212, 43, 4⟩, ⟨192, 85, 0, 85, 0, 85, 0, 213, 171, 5⟩, ⟨192, 80, 0, 68, 0, 0, 0, 214, 107, 5⟩, ⟨195, 85, 0, 85, 0, 85, 0, 215, 235, 6⟩,
  ⟨192, 80, 0, 136, 0, 0, 0, 216, 27, 4⟩, ⟨192, 80, 0, 153, 0, 0, 0, 217, 155, 5⟩, ⟨192, 90, 0, 136, 0, 0, 0, 218, 91, 5⟩, ⟨195, 90, 0, 153, 0, 0, 0, 219, 219, 6⟩, ⟨204, 80, 0, 204, 204, 0, 0, 220, 59, 5⟩, ⟨204, 85, 0, 221, 204, 85, 0, 221, 187, 6⟩, ⟨204, 90, 0, 204, 204, 0, 0, 222, 123, 6⟩, ⟨207, 95, 15, 221, 204, 85, 0, 223, 251, 7⟩,
  ⟨192, 160, 0, 0, 0, 0, 0, 224, 7, 3⟩, ⟨192, 160, 0, 0, 0, 0, 0, 225, 135, 4⟩, ⟨192, 160, 0, 34, 0, 0, 0, 226, 71, 4⟩, ⟨195, 160, 0, 34, 0, 0, 0, 227, 199, 5⟩, ⟨192, 160, 0, 68, 0, 0, 0, 228, 39, 4⟩, ⟨192, 165, 0, 68, 0, 0, 0, 229, 167, 5⟩, ⟨192, 160, 0, 102, 0, 0, 0, 230, 103, 5⟩, ⟨195, 165, 0, 102, 0, 0, 0, 231, 231, 6⟩,
  ⟨192, 160, 0, 136, 0, 0, 0, 232, 23, 4⟩, ⟨192, 160, 0, 136, 0, 0, 0, 233, 151, 5⟩, ⟨192, 170, 0, 170, 0, 170, 0, 234, 87, 5⟩, ⟨195, 170, 0, 170, 0, 170, 0, 235, 215, 6⟩, ⟨204, 160, 0, 204, 204, 0, 0, 236, 55, 5⟩, ⟨204, 165, 0, 204, 204, 0, 0, 237, 183, 6⟩, ⟨204, 170, 0, 238, 204, 170, 0, 238, 119, 6⟩, ⟨207, 175, 15, 238, 204, 170, 0, 239, 247, 7⟩,
  ⟨240, 240, 240, 0, 0, 0, 0, 240, 15, 4⟩, ⟨240, 240, 240, 17, 0, 0, 0, 241, 143, 5⟩, ⟨240, 240, 240, 34, 0, 0, 0, 242, 79, 5⟩, ⟨243, 240, 240, 51, 51, 0, 0, 243, 207, 6⟩, ⟨240, 240, 240, 68, 0, 0, 0, 244, 47, 5⟩, ⟨240, 245, 240, 85, 0, 85, 0, 245, 175, 6⟩, ⟨240, 240, 240, 102, 0, 0, 0, 246, 111, 6⟩, ⟨243, 245, 240, 119, 51, 85, 0, 247, 239, 7⟩,
  ⟨240, 240, 240, 136, 0, 0, 0, 248, 31, 5⟩, ⟨240, 240, 240, 153, 0, 0, 0, 249, 159, 6⟩, ⟨240, 250, 240, 170, 0, 170, 0, 250, 95, 6⟩, ⟨243, 250, 240, 187, 51, 170, 0, 251, 223, 7⟩, ⟨252, 240, 240, 204, 204, 0, 0, 252, 63, 6⟩, ⟨252, 245, 240, 221, 204, 85, 0, 253, 191, 7⟩, ⟨252, 250, 240, 238, 204, 170, 0, 254, 127, 7⟩, ⟨255, 255, 255, 255, 255, 255, 255, 255, 255, 8⟩]
noncomputable def pcN (v : Nat) : Nat := Nat.mod (Nat.land (Nat.mul v 0x200040008001) 0x111111111111111) 15
noncomputable def wonT (s t : T8) : Nat := Nat.lor (Nat.lor (Nat.lor (Nat.lor (Nat.lor (Nat.lor (Nat.lor (Nat.land s.me t.c7) (Nat.land s.c1 t.c6)) (Nat.land s.c2 t.c5)) (Nat.land s.c3 t.c4)) (Nat.land s.c4 t.c3)) (Nat.land s.c5 t.c2)) (Nat.land s.c6 t.c1)) (Nat.land s.c7 t.me)
noncomputable def okT (s t : T8) : Bool := Nat.ble (pcN (wonT s t)) (pcN (Nat.land s.me t.rev)) && Nat.ble (Nat.mul 8 (pcN (wonT s t))) (Nat.mul s.n t.n)
theorem all1 : ((tabT.take 64).all fun s => tabT.all fun t => okT s t) = true := by decide +kernel
theorem all2 : (((tabT.drop 64).take 64).all fun s => tabT.all fun t => okT s t) = true := by decide +kernel
theorem all3 : (((tabT.drop 128).take 64).all fun s => tabT.all fun t => okT s t) = true := by decide +kernel
theorem all4 : ((tabT.drop 192).all fun s => tabT.all fun t => okT s t) = true := by decide +kernel
theorem tab_cut : tabT = tabT.take 64 ++ ((tabT.drop 64).take 64 ++ ((tabT.drop 128).take 64 ++ tabT.drop 192)) := by rfl
theorem all_ok {s t : T8} (hs : s ∈ tabT) (ht : t ∈ tabT) : okT s t = true := by
  have key : (tabT.all fun s => tabT.all fun t => okT s t) = true := by
    rw [congrArg (fun z => List.all z fun s => tabT.all fun t => okT s t) tab_cut]
    simp only [List.all_append, all1, all2, all3, all4, Bool.and_self]
  exact List.all_eq_true.mp (List.all_eq_true.mp key s hs) t ht
noncomputable def dT : T8 := ⟨0, 0, 0, 0, 0, 0, 0, 0, 0, 0⟩
noncomputable def rowT (a : Nat) : T8 := tabT.getD a dT
theorem row_mem {a : Nat} (h : a < 256) : rowT a ∈ tabT := by
  have l : tabT.length = 256 := by rfl
  unfold rowT
  rw [List.getD_eq_getElem?_getD, List.getElem?_eq_getElem (by omega)]
  exact List.getElem_mem _
noncomputable def clT (s : T8) (l : Nat) : Nat := match l with | 0 => s.me | 1 => s.c1 | 2 => s.c2 | 3 => s.c3 | 4 => s.c4 | 5 => s.c5 | 6 => s.c6 | _ => s.c7
noncomputable def chk1 (a : Nat) (s : T8) : Bool := Nat.beq s.me a && Nat.beq s.n (pcN a) && Nat.blt s.rev 256 && ((List.range 8).all fun l => decide (closedF (a : Int) (l : Int) = ((clT s l : Nat) : Int)) && Nat.blt (clT s l) 256) && ((List.range 8).all fun k => s.rev.testBit k == a.testBit (7 - k))
theorem tabA : ((List.range 128).all fun a => chk1 a (rowT a)) = true := by decide +kernel
theorem tabB : ((List.range 128).all fun a => chk1 (128 + a) (rowT (128 + a))) = true := by decide +kernel
theorem tab_chk {a : Nat} (h : a < 256) : chk1 a (rowT a) = true := by
  by_cases q : a < 128
  · exact List.all_eq_true.mp tabA a (List.mem_range.mpr q)
  · have := List.all_eq_true.mp tabB (a - 128) (List.mem_range.mpr (by omega))
    simp only [show 128 + (a - 128) = a by omega] at this
    exact this
noncomputable def btw (k t e : Nat) : Bool := Nat.beq (Nat.land (Nat.xor t k) (Nat.xor t e)) 0
noncomputable def freeN (a k e : Nat) : Bool := (List.range 8).all fun t => a.testBit t || !btw k t e
noncomputable def chk2 (a : Nat) (s : T8) : Bool := (List.range 8).all fun k => (List.range 8).all fun e => freeN a k e == (clT s (Nat.xor k e)).testBit k
theorem free1 : ((List.range 64).all fun a => chk2 a (rowT a)) = true := by decide +kernel
theorem free2 : ((List.range 64).all fun a => chk2 (64 + a) (rowT (64 + a))) = true := by decide +kernel
theorem free3 : ((List.range 64).all fun a => chk2 (128 + a) (rowT (128 + a))) = true := by decide +kernel
theorem free4 : ((List.range 64).all fun a => chk2 (192 + a) (rowT (192 + a))) = true := by decide +kernel
theorem free_chk {a : Nat} (h : a < 256) : chk2 a (rowT a) = true := by
  by_cases q : a < 64
  · exact List.all_eq_true.mp free1 a (List.mem_range.mpr q)
  by_cases q2 : a < 128
  · have := List.all_eq_true.mp free2 (a - 64) (List.mem_range.mpr (by omega))
    simp only [show 64 + (a - 64) = a by omega] at this
    exact this
  by_cases q3 : a < 192
  · have := List.all_eq_true.mp free3 (a - 128) (List.mem_range.mpr (by omega))
    simp only [show 128 + (a - 128) = a by omega] at this
    exact this
  · have := List.all_eq_true.mp free4 (a - 192) (List.mem_range.mpr (by omega))
    simp only [show 192 + (a - 192) = a by omega] at this
    exact this

end
section
theorem wo_ok : AllOk wordL := by
  intro x hx
  simp only [wordL, List.mem_cons, List.not_mem_nil, or_false] at hx
  rcases hx with h | h | h | h | h | h | h | h <;> subst h <;> decide +kernel
theorem keys8 {k : Int} (h : k ∈ rangeKs 0 8) : ∃ j : Nat, j < 8 ∧ k = (j : Int) := by
  have q := mem_rangeKs h
  exact ⟨k.toNat, by omega, by omega⟩
theorem land_nat (x y : Nat) : Builtin.bitAnd (x : Int) (y : Int) = ((Nat.land x y : Nat) : Int) := bitAnd_pp (by omega) (by omega)
theorem lor_nat (x y : Nat) : Builtin.bitOr (x : Int) (y : Int) = ((Nat.lor x y : Nat) : Int) := by
  have e : Builtin.bitNot (Builtin.bitNot (x : Int)) = x ∧ Builtin.bitNot (Builtin.bitNot (y : Int)) = y := by unfold Builtin.bitNot; omega
  have n1 : ¬ 0 ≤ Builtin.bitNot (x : Int) := by unfold Builtin.bitNot; omega
  have n2 : ¬ 0 ≤ Builtin.bitNot (y : Int) := by unfold Builtin.bitNot; omega
  unfold Builtin.bitOr
  rw [bitAnd_nn n1 n2, e.1, e.2]
  unfold Builtin.bitNot
  show -(-((Nat.lor x y : Nat) : Int) - 1) - 1 = _
  omega
theorem bitF_nat (n k : Nat) : bitF (n : Int) (k : Int) = n.testBit k := by
  unfold bitF
  rw [bitAnd_m1, Int.fdiv_eq_ediv_of_nonneg _ (Int.pow_nonneg (by decide)), Nat.testBit_eq_decide_div_mod_eq]
  have e : ((n : Int) / 2 ^ (k : Int).toNat) % 2 = ((n / 2 ^ k % 2 : Nat) : Int) := by simp
  rw [e]
  have : n / 2 ^ k % 2 < 2 := Nat.mod_lt _ (by decide)
  congr 1
  apply propext
  omega
/-- the turns that a number tells -/
@[irreducible] noncomputable def turnsF (n : Int) : List Int := (rangeKs 0 8).filter (bitF n)
theorem mem_turns {n k : Int} : k ∈ turnsF n ↔ k ∈ rangeKs 0 8 ∧ bitF n k = true := by unfold turnsF; exact List.mem_filter
theorem turns_len : ((List.range 256).all fun n => decide ((turnsF (n : Int)).length = pcN n)) = true := by decide +kernel
theorem turnsN_len {n : Nat} (h : n < 256) : (turnsF (n : Int)).length = pcN n := of_decide_eq_true (List.all_eq_true.mp turns_len n (List.mem_range.mpr h))
theorem tab_all {a : Nat} (h : a < 256) : (rowT a).me = a ∧ (rowT a).n = pcN a ∧ (rowT a).rev < 256 ∧ (∀ l : Nat, l < 8 → closedF (a : Int) (l : Int) = ((clT (rowT a) l : Nat) : Int) ∧ clT (rowT a) l < 256) ∧ ∀ k : Nat, k < 8 → (rowT a).rev.testBit k = a.testBit (7 - k) := by
  have q := tab_chk h
  unfold chk1 at q
  simp only [Bool.and_eq_true, List.all_eq_true, List.mem_range, Nat.blt_eq, decide_eq_true_eq, beq_iff_eq] at q
  exact ⟨Nat.eq_of_beq_eq_true q.1.1.1.1, Nat.eq_of_beq_eq_true q.1.1.1.2, q.1.1.2, q.1.2, q.2⟩
theorem bit_land (x y k : Nat) : (Nat.land x y).testBit k = (x.testBit k && y.testBit k) := Nat.testBit_and x y k
theorem bit_lor (x y k : Nat) : (Nat.lor x y).testBit k = (x.testBit k || y.testBit k) := Nat.testBit_or x y k
theorem lt_land {x y : Nat} (h : x < 256) : Nat.land x y < 256 := Nat.lt_of_le_of_lt Nat.and_le_left h
theorem lt_lor {x y : Nat} (h : x < 256) (h' : y < 256) : Nat.lor x y < 256 := Nat.or_lt_two_pow (n := 8) h h'
theorem due_won {a b : Nat} (ha : a < 256) (hb : b < 256) : dueW (a : Int) (b : Int) = ((wonT (rowT a) (rowT b) : Nat) : Int) := by
  have qa := (tab_all ha).2.2.2.1
  have qb := (tab_all hb).2.2.2.1
  have a0 := (qa 0 (by decide)).1; have a1 := (qa 1 (by decide)).1; have a2 := (qa 2 (by decide)).1; have a3 := (qa 3 (by decide)).1
  have a4 := (qa 4 (by decide)).1; have a5 := (qa 5 (by decide)).1; have a6 := (qa 6 (by decide)).1; have a7 := (qa 7 (by decide)).1
  have b0 := (qb 0 (by decide)).1; have b1 := (qb 1 (by decide)).1; have b2 := (qb 2 (by decide)).1; have b3 := (qb 3 (by decide)).1
  have b4 := (qb 4 (by decide)).1; have b5 := (qb 5 (by decide)).1; have b6 := (qb 6 (by decide)).1; have b7 := (qb 7 (by decide)).1
  unfold dueW
  simp only [List.foldl_cons, List.foldl_nil]
  rw [show ((7 : Int) - 0) = ((7 : Nat) : Int) from rfl, show ((7 : Int) - 1) = ((6 : Nat) : Int) from rfl, show ((7 : Int) - 2) = ((5 : Nat) : Int) from rfl, show ((7 : Int) - 3) = ((4 : Nat) : Int) from rfl,
    show ((7 : Int) - 4) = ((3 : Nat) : Int) from rfl, show ((7 : Int) - 5) = ((2 : Nat) : Int) from rfl, show ((7 : Int) - 6) = ((1 : Nat) : Int) from rfl, show ((7 : Int) - 7) = ((0 : Nat) : Int) from rfl]
  rw [show closedF (a : Int) 0 = _ from a0, show closedF (a : Int) 1 = _ from a1, show closedF (a : Int) 2 = _ from a2, show closedF (a : Int) 3 = _ from a3, show closedF (a : Int) 4 = _ from a4, show closedF (a : Int) 5 = _ from a5, show closedF (a : Int) 6 = _ from a6, show closedF (a : Int) 7 = _ from a7,
    b0, b1, b2, b3, b4, b5, b6, b7]
  rw [show (0 : Int) = ((0 : Nat) : Int) from rfl]
  simp only [land_nat, lor_nat]
  rw [show ∀ z : Nat, Nat.lor 0 z = z from Nat.zero_or]
  rfl
theorem won_lt {a b : Nat} (ha : a < 256) (hb : b < 256) : wonT (rowT a) (rowT b) < 256 := by
  have q := (tab_all ha).2.2.2.1
  unfold wonT
  exact lt_lor (lt_lor (lt_lor (lt_lor (lt_lor (lt_lor (lt_lor (lt_land (q 0 (by decide)).2) (lt_land (q 1 (by decide)).2)) (lt_land (q 2 (by decide)).2)) (lt_land (q 3 (by decide)).2)) (lt_land (q 4 (by decide)).2)) (lt_land (q 5 (by decide)).2)) (lt_land (q 6 (by decide)).2)) (lt_land (q 7 (by decide)).2)
/-- the table of the ways -/
noncomputable def reachD : List (List Int) := (List.range 8).map rowF
theorem far_m : ∀ k : Nat, k < 8 → (reachD.getD k []).idxOf 3 = 7 - k := by decide +kernel
theorem far_i : ∀ k : Nat, k < 8 → 3 ∈ reachD.getD k [] := by decide +kernel
theorem far_x : ∀ k : Nat, k < 8 → ∀ a ∈ reachD.getD k [], a ≤ 3 := by decide +kernel
theorem far_y : ∀ k : Nat, k < 8 → PyData.layable0 (.list ((reachD.getD k []).map .int)) = true := by decide +kernel
theorem far_r : ∀ k : Nat, k < 8 → (reachD.getD k []).length = 8 := by decide +kernel
theorem far_D : Far reachD := { l := rfl, r := far_r, m := far_m, i := far_i, x := far_x, y := far_y }
noncomputable def hamN (i j : Nat) : Nat := pcN (Nat.xor i j)
theorem cell_chk : ((List.range 8).all fun i => (List.range 8).all fun j => decide (cellF reachD (i : Int) (j : Int) = ((hamN i j : Nat) : Int))) = true := by decide +kernel
theorem cell_ham {i j : Nat} (h : i < 8) (h' : j < 8) : cellF reachD (i : Int) (j : Int) = ((hamN i j : Nat) : Int) := by
  have q := List.all_eq_true.mp (List.all_eq_true.mp cell_chk i (List.mem_range.mpr h)) j (List.mem_range.mpr h')
  exact of_decide_eq_true q
theorem btw_chk : ((List.range 8).all fun i => (List.range 8).all fun j => (List.range 8).all fun t => decide (hamN i t + hamN t j = hamN i j) == btw i t j) = true := by decide +kernel
theorem btw_ham {i j t : Nat} (h : i < 8) (h' : j < 8) (h2 : t < 8) : decide (hamN i t + hamN t j = hamN i j) = btw i t j := by
  have q := List.all_eq_true.mp (List.all_eq_true.mp (List.all_eq_true.mp btw_chk i (List.mem_range.mpr h)) j (List.mem_range.mpr h')) t (List.mem_range.mpr h2)
  exact eq_of_beq q
theorem free_at {a k e : Nat} (h : a < 256) (hk : k < 8) (he : e < 8) : freeF reachD (k : Int) (e : Int) ((rangeKs 0 8).filter fun t => !bitF (a : Int) t) = (clT (rowT a) (Nat.xor k e)).testBit k := by
  have q := eq_of_beq (List.all_eq_true.mp (List.all_eq_true.mp (free_chk h) k (List.mem_range.mpr hk)) e (List.mem_range.mpr he))
  rw [← q]
  unfold freeF freeN
  rw [Bool.eq_iff_iff, List.all_eq_true, List.all_eq_true]
  have one : ∀ t : Nat, t < 8 → (decide (cellF reachD (k : Int) (t : Int) + cellF reachD (t : Int) (e : Int) = cellF reachD (k : Int) (e : Int)) = btw k t e) := fun t ht => by
    rw [cell_ham hk ht, cell_ham ht he, cell_ham hk he, ← btw_ham hk he ht]
    congr 1
    apply propext
    omega
  refine ⟨fun hh t ht => ?_, fun hh t ht => ?_⟩
  · have ht' := List.mem_range.mp ht
    by_cases hb : a.testBit t = true
    · rw [hb]; rfl
    · have m : (t : Int) ∈ (rangeKs 0 8).filter fun t => !bitF (a : Int) t := List.mem_filter.mpr ⟨by unfold rangeKs; exact List.mem_map.mpr ⟨t, ht, by omega⟩, by rw [bitF_nat]; simpa using hb⟩
      have := hh _ m
      rw [one t ht'] at this
      rw [this, Bool.or_true]
  · obtain ⟨m1, m2⟩ := List.mem_filter.mp ht
    obtain ⟨j, hj, rfl⟩ := keys8 m1
    rw [bitF_nat] at m2
    have := hh j (List.mem_range.mpr hj)
    rw [one j hj]
    rw [show a.testBit j = false by simpa using m2, Bool.false_or] at this
    exact this
theorem xor_chk : ((List.range 8).all fun k => (List.range 8).all fun e => decide (k ^^^ (7 - e) = 7 - (k ^^^ e))) = true := by decide +kernel
theorem any_congr8 {f g : Nat → Bool} (h : ∀ e : Nat, e < 8 → f e = g e) : ([0, 1, 2, 3, 4, 5, 6, 7] : List Nat).any f = ([0, 1, 2, 3, 4, 5, 6, 7] : List Nat).any g := by
  simp only [List.any_cons, List.any_nil, h 0 (by decide), h 1 (by decide), h 2 (by decide), h 3 (by decide), h 4 (by decide), h 5 (by decide), h 6 (by decide), h 7 (by decide)]
theorem xor_perm : ((List.range 8).all fun k => (([0, 1, 2, 3, 4, 5, 6, 7] : List Nat).map fun e => k ^^^ e).isPerm [0, 1, 2, 3, 4, 5, 6, 7]) = true := by decide +kernel
theorem any_xor {k : Nat} (hk : k < 8) (f : Nat → Bool) : (([0, 1, 2, 3, 4, 5, 6, 7] : List Nat).any fun e => f (k ^^^ e)) = ([0, 1, 2, 3, 4, 5, 6, 7] : List Nat).any f := by
  have q := List.isPerm_iff.mp (List.all_eq_true.mp xor_perm k (List.mem_range.mpr hk))
  have r := q.any_eq (f := f)
  rw [List.any_map] at r
  exact r
theorem won_at {a b k : Nat} (ha : a < 256) (hb : b < 256) (hk : k < 8) : wonF reachD (k : Int) ((rangeKs 0 8).filter fun t => !bitF (a : Int) t) ((rangeKs 0 8).filter fun t => !bitF (b : Int) t) (rangeKs 0 8) = (wonT (rowT a) (rowT b)).testBit k := by
  have e1 : ∀ e : Nat, e < 8 → wonE reachD (k : Int) ((rangeKs 0 8).filter fun t => !bitF (a : Int) t) ((rangeKs 0 8).filter fun t => !bitF (b : Int) t) (e : Int) = ((clT (rowT a) (k ^^^ e)).testBit k && (clT (rowT b) (k ^^^ (7 - e))).testBit k) := fun e he => by
    unfold wonE
    rw [show ((7 : Int) - (e : Int)) = ((7 - e : Nat) : Int) by omega, free_at ha hk he, free_at hb hk (by omega)]; rfl
  have ks : rangeKs 0 8 = ([0, 1, 2, 3, 4, 5, 6, 7] : List Nat).map fun e => ((e : Nat) : Int) := by rfl
  unfold wonF
  rw [congrArg (fun z => List.any z _) ks, List.any_map]
  have e2 : ∀ e : Nat, e < 8 → k ^^^ (7 - e) = 7 - (k ^^^ e) := fun e he => of_decide_eq_true (List.all_eq_true.mp (List.all_eq_true.mp xor_chk k (List.mem_range.mpr hk)) e (List.mem_range.mpr he))
  have e3 : (([0, 1, 2, 3, 4, 5, 6, 7] : List Nat).any fun e => wonE reachD (k : Int) ((rangeKs 0 8).filter fun t => !bitF (a : Int) t) ((rangeKs 0 8).filter fun t => !bitF (b : Int) t) (e : Int)) = (([0, 1, 2, 3, 4, 5, 6, 7] : List Nat).any fun e => (fun l => (clT (rowT a) l).testBit k && (clT (rowT b) (7 - l)).testBit k) (k ^^^ e)) :=
    any_congr8 fun e he => by rw [e1 e he, e2 e he]
  refine Eq.trans e3 ?_
  rw [any_xor hk fun l => (clT (rowT a) l).testBit k && (clT (rowT b) (7 - l)).testBit k]
  unfold wonT
  simp only [bit_land, bit_lor, List.any_cons, List.any_nil, Bool.or_false, Bool.or_assoc]
  rfl
theorem won_eq {a b : Nat} (ha : a < 256) (hb : b < 256) : ((rangeKs 0 8).filter fun k => wonF reachD k ((rangeKs 0 8).filter fun t => !bitF (a : Int) t) ((rangeKs 0 8).filter fun t => !bitF (b : Int) t) (rangeKs 0 8)) = turnsF (dueW (a : Int) (b : Int)) := by
  unfold turnsF
  refine List.filter_congr fun k hk => ?_
  obtain ⟨j, hj, rfl⟩ := keys8 hk
  rw [won_at ha hb hj, due_won ha hb, bitF_nat]
theorem mate_chk : ((List.range 8).all fun i => (List.range 8).all fun j => (mateF (i : Int) (j : Int) && farF (i : Int) (j : Int)) == Nat.beq i (7 - j)) = true := by decide +kernel
theorem mate_at {i j : Nat} (h : i < 8) (h' : j < 8) : (mateF (i : Int) (j : Int) && farF (i : Int) (j : Int)) = Nat.beq i (7 - j) := eq_of_beq (List.all_eq_true.mp (List.all_eq_true.mp mate_chk i (List.mem_range.mpr h)) j (List.mem_range.mpr h'))
theorem face_at {b k : Nat} (hk : k < 8) : faceF (turnsF (b : Int)) (k : Int) = b.testBit (7 - k) := by
  unfold faceF
  rw [List.filter_filter, Bool.eq_iff_iff, decide_eq_true_eq]
  constructor
  · intro h
    obtain ⟨x, hx⟩ := List.exists_mem_of_ne_nil _ h
    obtain ⟨y, hy, _⟩ := List.mem_map.mp hx
    obtain ⟨m1, m2⟩ := List.mem_filter.mp hy
    obtain ⟨m3, m4⟩ := mem_turns.mp m1
    obtain ⟨j, hj, rfl⟩ := keys8 m3
    rw [Bool.and_comm, mate_at hj hk] at m2
    have e : j = 7 - k := Nat.eq_of_beq_eq_true m2
    rw [bitF_nat, e] at m4
    exact m4
  · intro h e
    have m : ((7 - k : Nat) : Int) ∈ ((turnsF (b : Int)).filter fun i => farF i (k : Int) && mateF i (k : Int)) := List.mem_filter.mpr ⟨mem_turns.mpr ⟨by unfold rangeKs; exact List.mem_map.mpr ⟨7 - k, List.mem_range.mpr (by omega), by omega⟩, by rw [bitF_nat]; exact h⟩, by
      rw [Bool.and_comm, mate_at (by omega) hk]; exact Nat.beq_refl _⟩
    rw [List.map_eq_nil_iff] at e
    rw [e] at m
    cases m
theorem face_eq {a b : Nat} : (turnsF (a : Int)).filter (faceF (turnsF (b : Int))) = (rangeKs 0 8).filter fun k => mirF (a : Int) (b : Int) k := by
  unfold turnsF
  rw [List.filter_filter]
  refine List.filter_congr fun k hk => ?_
  obtain ⟨j, hj, rfl⟩ := keys8 hk
  have q := face_at (b := b) hj
  unfold turnsF at q
  rw [q]
  unfold mirF
  rw [show ((7 : Int) - (j : Int)) = ((7 - j : Nat) : Int) by omega, bitF_nat, bitF_nat, Bool.and_comm]
theorem mir_rev {a b : Nat} (hb : b < 256) : ((rangeKs 0 8).filter fun k => mirF (a : Int) (b : Int) k) = turnsF ((Nat.land a (rowT b).rev : Nat) : Int) := by
  unfold turnsF
  refine List.filter_congr fun k hk => ?_
  obtain ⟨j, hj, rfl⟩ := keys8 hk
  unfold mirF
  rw [show ((7 : Int) - (j : Int)) = ((7 - j : Nat) : Int) by omega, bitF_nat, bitF_nat, bitF_nat, bit_land, (tab_all hb).2.2.2.2 j hj]
/-- the law's two inequalities -/
theorem law_le {a b : Nat} (ha : a < 256) (hb : b < 256) : (turnsF (dueW (a : Int) (b : Int))).length ≤ ((rangeKs 0 8).filter fun k => mirF (a : Int) (b : Int) k).length ∧ 8 * (turnsF (dueW (a : Int) (b : Int))).length ≤ (turnsF (a : Int)).length * (turnsF (b : Int)).length := by
  have q := all_ok (row_mem ha) (row_mem hb)
  unfold okT at q
  rw [Bool.and_eq_true, Nat.ble_eq, Nat.ble_eq] at q
  have ta := tab_all ha
  have tb := tab_all hb
  rw [due_won ha hb, mir_rev hb, turnsN_len (won_lt ha hb), turnsN_len (lt_land ha), turnsN_len ha, turnsN_len hb]
  rw [ta.1, ta.2.1, tb.2.1] at q
  exact q
/-- what the shelf keeps are the number's turns -/
noncomputable def shelfF (h : Int) : List Str := shF (digF h 1 (Builtin.Int.intBits h)) wordL (rangeKs 0 (Builtin.Int.intBits h))
theorem kept1 : ((List.range 128).all fun n => decide (keptF wordL (shelfF (n : Int)) (rangeKs 0 8) = turnsF (n : Int))) = true := by decide +kernel
theorem kept2 : ((List.range 128).all fun n => decide (keptF wordL (shelfF ((128 + n : Nat) : Int)) (rangeKs 0 8) = turnsF ((128 + n : Nat) : Int))) = true := by decide +kernel
theorem kept_turns {n : Nat} (h : n < 256) : keptF wordL (shelfF (n : Int)) (rangeKs 0 8) = turnsF (n : Int) := by
  by_cases q : n < 128
  · exact of_decide_eq_true (List.all_eq_true.mp kept1 n (List.mem_range.mpr q))
  · have := of_decide_eq_true (List.all_eq_true.mp kept2 (n - 128) (List.mem_range.mpr (by omega)))
    rw [show 128 + (n - 128) = n by omega] at this
    exact this
theorem shelf_in : ∀ (l : List Int) (ds : List Int) (sh : List Str), (∀ x ∈ sh, x ∈ wordL) → (∀ t ∈ l, 0 ≤ t ∧ t < 8) → (∀ x ∈ l.foldl (stepS ds wordL) sh, x ∈ wordL) ∧ (l.foldl (stepS ds wordL) sh).length ≤ sh.length + l.length
  | [], _, _, h, _ => ⟨h, Nat.le_refl _⟩
  | t :: l, ds, sh, h, ht => by
    have q := ht t (.head _)
    have m : wordL.getD t.toNat default ∈ wordL := by
      rw [List.getD_eq_getElem?_getD, List.getElem?_eq_getElem (show t.toNat < wordL.length by show t.toNat < 8; omega)]
      exact List.getElem_mem _
    have st : (∀ x ∈ stepS ds wordL sh t, x ∈ wordL) ∧ (stepS ds wordL sh t).length ≤ sh.length + 1 := by
      unfold stepS
      split
      · refine ⟨fun x hx => ?_, by rw [insF_len]; exact Nat.le_refl _⟩
        unfold insF at hx
        rcases List.mem_append.mp hx with hx | hx
        · exact h x (List.mem_of_mem_take hx)
        · rcases List.mem_cons.mp hx with rfl | hx
          · exact m
          · exact h x (List.mem_of_mem_drop hx)
      · exact ⟨h, Nat.le_succ _⟩
    have ih := shelf_in l ds (stepS ds wordL sh t) st.1 (fun t ht' => ht t (.tail _ ht'))
    refine ⟨ih.1, ?_⟩
    rw [List.length_cons]
    exact Nat.le_trans ih.2 (by omega)
theorem shelf_ok {h : Int} (h0 : 0 ≤ h ∧ h < 256) : AllOk (shelfF h) ∧ (shelfF h).length ≤ 8 := by
  have b := bits_h h0
  have q := shelf_in (rangeKs 0 (Builtin.Int.intBits h)) (digF h 1 (Builtin.Int.intBits h)) [] (fun x hx => by cases hx) (fun t ht => by have := mem_rangeKs ht; omega)
  rw [rangeKs_length] at q
  refine ⟨fun x hx => wo_ok x (q.1 x hx), ?_⟩
  have := q.2
  rw [List.length_nil] at this
  unfold shelfF shF
  omega
theorem kept_int {h : Int} (h0 : 0 ≤ h ∧ h < 256) : keptF wordL (shF (digF h 1 (Builtin.Int.intBits h)) wordL (rangeKs 0 (Builtin.Int.intBits h))) (rangeKs 0 8) = turnsF h := by
  have q := kept_turns (n := h.toNat) (by omega)
  rw [show ((h.toNat : Nat) : Int) = h by omega] at q
  exact q
theorem turns_in {h k : Int} (m : k ∈ turnsF h) : 0 ≤ k ∧ k < 8 := by
  unfold turnsF at m
  have := mem_rangeKs (List.mem_filter.mp m).1
  omega
theorem turns_8 (h : Int) : (turnsF h).length ≤ 8 := by
  unfold turnsF
  exact Nat.le_trans (List.length_filter_le _ _) (by rw [rangeKs_length]; exact Nat.le_refl _)
/-- the turns that a number does not tell -/
@[irreducible] noncomputable def restF (n : Int) : List Int := (rangeKs 0 8).filter fun k => !bitF n k
theorem rest_eq (n : Int) : ((rangeKs 0 8).filter fun k => !((turnsF n).any (· == k))) = restF n := by
  unfold restF
  refine List.filter_congr fun k hk => ?_
  congr 1
  rw [Bool.eq_iff_iff, List.any_eq_true]
  unfold turnsF
  constructor
  · rintro ⟨x, hx, e⟩
    have e' : x = k := by simpa using e
    subst e'
    exact (List.mem_filter.mp hx).2
  · intro h
    exact ⟨k, List.mem_filter.mpr ⟨hk, h⟩, by simp⟩
theorem rest_in {h k : Int} (m : k ∈ restF h) : 0 ≤ k ∧ k < 8 := by
  unfold restF at m
  have := mem_rangeKs (List.mem_filter.mp m).1
  omega
theorem rest_8 (h : Int) : (restF h).length ≤ 8 := by
  unfold restF
  exact Nat.le_trans (List.length_filter_le _ _) (by rw [rangeKs_length]; exact Nat.le_refl _)
/-- the words that are won -/
@[irreducible] noncomputable def wonL (a b : Int) : List Int := (rangeKs 0 8).filter fun k => wonF reachD k (restF a) (restF b) (rangeKs 0 8)
theorem wonL_eq (a b : Int) : ((rangeKs 0 8).filter fun k => wonF reachD k (restF a) (restF b) (rangeKs 0 8)) = wonL a b := by unfold wonL; rfl
/-- the red words that face a yellow one -/
@[irreducible] noncomputable def faceL (a b : Int) : List Int := (turnsF a).filter (faceF (turnsF b))
theorem faceL_eq (a b : Int) : (turnsF a).filter (faceF (turnsF b)) = faceL a b := by unfold faceL; rfl
theorem won_due {a b : Int} (ha : 0 ≤ a ∧ a < 256) (hb : 0 ≤ b ∧ b < 256) : wonL a b = (rangeKs 0 8).filter fun k => bitF (dueW a b) k := by
  obtain ⟨x, rfl⟩ := Int.eq_ofNat_of_zero_le ha.1
  obtain ⟨y, rfl⟩ := Int.eq_ofNat_of_zero_le hb.1
  have q := won_eq (a := x) (b := y) (by omega) (by omega)
  unfold turnsF at q
  unfold wonL restF
  exact q
theorem face_due {a b : Int} (ha : 0 ≤ a ∧ a < 256) (hb : 0 ≤ b ∧ b < 256) : faceL a b = (rangeKs 0 8).filter fun k => mirF a b k := by
  obtain ⟨x, rfl⟩ := Int.eq_ofNat_of_zero_le ha.1
  obtain ⟨y, rfl⟩ := Int.eq_ofNat_of_zero_le hb.1
  unfold faceL
  exact face_eq
theorem law_len {a b : Int} (ha : 0 ≤ a ∧ a < 256) (hb : 0 ≤ b ∧ b < 256) : (wonL a b).length ≤ (faceL a b).length ∧ 8 * (wonL a b).length ≤ (turnsF a).length * (turnsF b).length := by
  rw [won_due ha hb, face_due ha hb]
  obtain ⟨x, rfl⟩ := Int.eq_ofNat_of_zero_le ha.1
  obtain ⟨y, rfl⟩ := Int.eq_ofNat_of_zero_le hb.1
  have q := law_le (a := x) (b := y) (by omega) (by omega)
  unfold turnsF at q ⊢
  exact q
theorem kept_nm {h : Int} {vs : List Value} (h0 : 0 ≤ h ∧ h < 256) (i : IntsAre vs (keptF wordL (shF (digF h 1 (Builtin.Int.intBits h)) wordL (rangeKs 0 (Builtin.Int.intBits h))) (rangeKs 0 8))) : ∃ T, T = turnsF h ∧ T.length ≤ 8 ∧ (∀ t ∈ T, 0 ≤ t ∧ t < 8) ∧ IntsAre vs T := by
  rw [kept_int h0] at i
  exact ⟨_, rfl, turns_8 h, fun t => turns_in, i⟩
theorem rest_nm {h : Int} {T : List Int} {vs : List Value} (e : T = turnsF h) (i : IntsAre vs ((rangeKs 0 8).filter fun k => !(T.any (· == k)))) : ∃ U, U = restF h ∧ U.length ≤ 8 ∧ (∀ t ∈ U, 0 ≤ t ∧ t < 8) ∧ IntsAre vs U := by
  subst e
  rw [rest_eq] at i
  exact ⟨_, rfl, rest_8 h, fun t => rest_in, i⟩
theorem won_nm {T U : List Int} {vs : List Value} (i : IntsAre vs ((rangeKs 0 8).filter fun k => wonF reachD k T U (rangeKs 0 8))) : ∃ V, V = ((rangeKs 0 8).filter fun k => wonF reachD k T U (rangeKs 0 8)) ∧ V.length ≤ 8 ∧ IntsAre vs V :=
  ⟨_, rfl, Nat.le_trans (List.length_filter_le _ _) (by rw [rangeKs_length]; exact Nat.le_refl _), i⟩
theorem face_nm {T U : List Int} {vs : List Value} (h : T.length ≤ 8) (i : IntsAre vs (T.filter (faceF U))) : ∃ V, V = T.filter (faceF U) ∧ V.length ≤ 8 ∧ IntsAre vs V :=
  ⟨_, rfl, Nat.le_trans (List.length_filter_le _ _) h, i⟩
/-- all that the law asks of the four lists -/
theorem law_end {a b : Int} {T U R S V M : List Int} (ha : 0 ≤ a ∧ a < 256) (hb : 0 ≤ b ∧ b < 256) (eT : T = turnsF a) (eU : U = turnsF b) (eR : R = restF a) (eS : S = restF b) (eV : V = (rangeKs 0 8).filter fun k => wonF reachD k R S (rangeKs 0 8)) (eM : M = T.filter (faceF U)) :
    V.length ≤ M.length ∧ 8 * V.length ≤ T.length * U.length ∧ V = ((rangeKs 0 8).filter fun k => bitF (dueW a b) k) ∧ M = (rangeKs 0 8).filter fun k => mirF a b k := by
  subst eT; subst eU; subst eR; subst eS; subst eV; subst eM
  rw [wonL_eq, faceL_eq]
  exact ⟨(law_len ha hb).1, (law_len ha hb).2, won_due ha hb, face_due ha hb⟩

end
section
local macro_rules | `(tactic| k_qdec) => `(tactic| decide +kernel)
local macro_rules | `(tactic| k_room) => `(tactic| ktr_room)
local macro_rules | `(tactic| k_ne) => `(tactic| first | ((try dsimp only); refine' apart_ne ?apx ?apm; (case apx => with_reducible assumption); (case apm => walk_at "ap mem")) | ((try dsimp only); refine' apart_en ?apx ?apm; (case apx => with_reducible assumption); (case apm => walk_at "ap mem")))
local macro_rules | `(tactic| wrow_close) => `(tactic| (w_end; (with_reducible show GoodW _ _ _ _ _ (.ok (.ret (.bool true))) _); refine goodW_bool (by with_reducible assumption) (by with_reducible assumption) (raisesW_false ?gn) ?gp; (case gn => exact allW_false_nil); (case gp => exact postW_of (by wrow_shape) (post_true _ _) rfl)))
theorem rows_a42 : True := by
  k_with_none
  k_with "m:cl enter" => (((refine wpAny_call ?_); k_dflt (refine' code_defV ?k1 ?k2 ?k3 ?k4 ?kO ?k5 ?kA ?kF ?kK ?k6 ?k7 ?k8 ?k9 ?kB ?_ ?c2 ?c3 ?c4 ?c5; (case kA => exact rfl); (case kF => exact rfl); (case kK => assumption); (case k1 => k_asm); (case k2 => k_asm); (case k3 => k_asm); (case k4 => k_asm); (case kO => k_asm); (case k5 => k_asm); (case k6 => k_is); (case k7 => k_is); (case k8 => ktr_room); (case k9 => first | exact BindsTo.of_eq rfl | exact binds_K (by k_in) rfl (by k_is) rfl rfl rfl | (refine' kp_binds ?kx ?ke; (case kx => k_in); (case ke => exact fun _ => rfl))); (case c5 => decide); (case kB => exact locs rfl); (case c2 => exact rfl); (case c3 => exact rfl); (case c4 => exact rfl); k_whole; intro g' L' h' FG' F' N' B' X' T' l1 lim'; (try k_lt l1); (try dsimp only); (try k_fold))))
  k_with "m:cl enterC" => (((refine wpAny_call ?_); k_dflt (refine' code_defCV ?k1 ?k2 ?k3 ?k4 ?kO ?k5 ?kA ?kF ?kK ?k6 ?k7 ?k8 ?k9 ?kB ?kD ?_ ?c2 ?c3 ?c4; (case kA => exact rfl); (case kF => exact rfl); (case kK => assumption); (case k1 => k_asm); (case k2 => k_asm); (case k3 => k_asm); (case k4 => k_asm); (case kO => k_asm); (case k5 => k_asm); (case k6 => k_is); (case k7 => k_is); (case k8 => ktr_room); (case k9 => first | exact BindsTo.of_eq rfl | exact binds_K (by k_in) rfl (by k_is) rfl rfl rfl | (refine' kp_binds ?kx ?ke; (case kx => k_in); (case ke => exact fun _ => rfl))); (case kB => exact rfl); (case kD => decide +kernel); (case c2 => exact rfl); (case c3 => exact rfl); (case c4 => exact rfl); k_whole; intro g' L' h' tk' cells' FG' F' N' Y' B' X' T' l1 lim'; (try k_lt l1); k_cells Y'; (try simp only [List.cons_append, List.nil_append] at N'); (try dsimp only); (try k_fold))))
  k_with "m:cl sub" => (first | exact fun _ h => h | exact List.forall_mem_nil _ | kcj_all)
  k_with "m:cl end" => ((refine' cl_end ?h ?N ?F ?N2 ?_ ?_; (case h => assumption); (case N => assumption); (case F => k_asm); (case N2 => k_asm); rotate_left))
  k_with "m:cl int" => ((refine' cl_end ?h ?N ?F ?N2 ?hn (r_int ?_); (case h => assumption); (case N => assumption); (case F => k_asm); (case N2 => k_asm); (case hn => walk_at "cl sub")))
  k_with "m:cl str" => ((refine' cl_end ?h ?N ?F ?N2 ?hn (r_str ?_); (case h => assumption); (case N => assumption); (case F => k_asm); (case N2 => k_asm); (case hn => walk_at "cl sub")))
  k_with "m:cl bool" => ((refine' cl_end ?h ?N ?F ?N2 ?hn (r_bool ?_); (case h => assumption); (case N => assumption); (case F => k_asm); (case N2 => k_asm); (case hn => walk_at "cl sub")))
  k_with "m:call builtin:list.append" => ((k_here; (with_reducible show wpAny _ _ (call (Value.builtin _) [Value.ref _, _]) _ _ _); k_dflt (refine' append_K ?k1 ?k2 ?k3 ?_ ?z; (case k1 => k_asm); (case k2 => k_asm); (case k3 => k_upd); (case z => exact Nat.le_of_ble_eq_true rfl); k_whole); intro h' F' N'; (try k_sweep)))
  k_with "m:call ref" => ((k_here; k_dflt (k_extra "call ref")))
  k_with "m:cl off1" => (first | exact List.forall_mem_nil _ | exact OwnOff.ne (by assumption) (by simp) | (refine List.forall_mem_cons.mpr ⟨?_, ?_⟩ <;> walk_at "cl off1") | k_ne)
  k_with "m:cl off" => ((unfold Off; walk_at "cl off1"))
  k_with "m:cl mem" => (first | exact List.forall_mem_nil _ | (refine List.forall_mem_cons.mpr ⟨by k_mem, ?_⟩; walk_at "cl mem") | (intro p9 h9; kst_mem))
  k_with "m:cl all" => (((try simp only [List.cons_append, List.nil_append, List.append_nil]); walk_at "cl mem"))
  k_with "m:execs cons" => ((k_here; (with_reducible refine tok_add ?_); intro tk; (try dsimp only); (try k_fold)))
  k_with "m:storeName" => ((k_here; first | ((with_reducible refine tok_sp ?_); intro t9) | ((with_reducible refine tok_st ?_); intro t9)))
  k_with "m:subscriptTail Name Constant ref int" => ((k_here; k_dflt (k_extra "tup")))
  k_with "m:notf" => (first | exact List.forall_mem_nil _ | (refine List.forall_mem_cons.mpr ⟨by first | exact notF_list | exact notF_cell (by assumption), ?_⟩; walk_at "notf"))
  k_with "m:eval ListComp" => ((k_here; k_dflt (refine LCg.ListComp_U (F₀ := by k_asm) (by with_unfolding_all rfl) (by decide) (by rfl) (by decide) (by rfl) ?_)))
  k_with "m:SrcC" => ((k_dflt (k_extra "src")))
  k_with "m:CompSrc" => ((k_dflt (k_extra "csrc")))
  k_with "m:eval ListComp" => ((k_here; k_dflt (refine ListComp_CF (by k_asm) (by with_unfolding_all rfl) (by rfl) (by rfl) (fun _ _ => by with_unfolding_all rfl) (by decide) ?_)))
  k_with "m:ap mem" => (first | with_reducible exact List.mem_cons_self | (refine List.mem_cons_of_mem _ ?_; walk_at "ap mem"))
  k_with "m:eval ListComp" => ((k_here; lct_look; lcg_calm; k_dflt (refine LCt.ListComp_T (F₀ := by k_asm) (by with_unfolding_all rfl) (by decide) (by rfl) (by decide) (by rfl) ?_); k_dflt lct_toSrc))
  k_with "m:CompSrcT" => ((k_here; k_dflt (k_extra "comp")))
  k_with "m:compareOp NotIn int ref" => ((k_here; (with_reducible show wpAny _ _ (compareOp CmpOp.NotIn (Value.int _ _) (Value.ref _)) _ _ _); k_dflt (refine' notin_list_ints ?s1 ?s2 ?_; (case s1 => is_list); (case s2 => with_reducible assumption))))
  k_with "m:exec Assign cons ListComp" => ((k_here; lct_look; lcg_calm; k_dflt (refine LCt.Assign_ListComp_T (F₀ := by k_asm) (by rfl) (by with_unfolding_all rfl) (by with_unfolding_all rfl) (by decide) (by rfl) (by decide) (by rfl) (by rfl) (by rfl) ?_); k_dflt lct_toSrc))
  k_with "m:apm" => (first | (refine' apart_ne ?apx ?apm; (case apx => with_reducible assumption); (case apm => walk_at "ap mem")) | (refine' apart_en ?apx ?apm; (case apx => with_reducible assumption); (case apm => walk_at "ap mem")))
  k_with "m:compareOp Eq ref ref" => ((k_here; (with_reducible show wpAny _ _ (compareOp CmpOp.Eq (Value.ref _) (Value.ref _)) _ _ _); k_dflt (refine' pair_eq ?pN ?pa ?pb ?pc ?qa ?qb ?qc ?xa ?xb ?xc ?ya ?yb ?yc ?za ?zb ?zc ?wa ?wb ?wc ?i1 ?i2 ?j1 ?j2 ?hu ?_; (case pN => k_asm); (case pa => k_mem); (case pb => rfl); (case pc => rfl); (case qa => k_mem); (case qb => rfl); (case qc => rfl); (case xa => k_mem); (case xb => rfl); (case xc => rfl); (case ya => k_mem); (case yb => rfl); (case yc => rfl); (case za => k_mem); (case zb => rfl); (case zc => rfl); (case wa => k_mem); (case wb => rfl); (case wc => rfl); (case i1 => with_reducible assumption); (case i2 => with_reducible assumption); (case j1 => with_reducible assumption); (case j2 => with_reducible assumption); (case hu => ke_room))))
  trivial
theorem i58 {i : Nat} (h : i < 8) : (0 : Int) ≤ (i : Int) ∧ (i : Int) < 8 := by omega
theorem w_strs (t0 t1 t2 t3 t4 t5 t6 t7 : Tok) : StrsAre [.str (PySem.Str.ofString "abc") t0, .str (PySem.Str.ofString "Abc") t1, .str (PySem.Str.ofString "aBc") t2, .str (PySem.Str.ofString "ABc") t3, .str (PySem.Str.ofString "abC") t4, .str (PySem.Str.ofString "AbC") t5, .str (PySem.Str.ofString "aBC") t6, .str (PySem.Str.ofString "ABC") t7] wordL :=
  .cons _ _ (.cons _ _ (.cons _ _ (.cons _ _ (.cons _ _ (.cons _ _ (.cons _ _ (.cons _ _ .nil)))))))
theorem num_in (x : Int) : 0 ≤ x.fmod 65536 ∧ x.fmod 65536 < 65536 := by
  rw [Int.fmod_eq_emod_of_nonneg _ (by decide)]; omega
theorem div_in (x : Int) : (0 ≤ (x.fmod 65536).fdiv 256 ∧ (x.fmod 65536).fdiv 256 < 256) ∧ (0 ≤ (x.fmod 65536).fmod 256 ∧ (x.fmod 65536).fmod 256 < 256) := by
  have q := num_in x
  generalize x.fmod 65536 = y at q
  rw [Int.fdiv_eq_ediv_of_nonneg _ (by decide), Int.fmod_eq_emod_of_nonneg _ (by decide)]
  omega
set_option maxHeartbeats 8000000 in
theorem law_holds : PySem.Challenge.rw_sn0086_01.Holds := by
  refine hd ?_
  k_go0
  all_goals try k_fold
  k_with_none
  k_with "m:cl enter" => (((refine wpAny_call ?_); k_dflt (refine' code_defV ?k1 ?k2 ?k3 ?k4 ?kO ?k5 ?kA ?kF ?kK ?k6 ?k7 ?k8 ?k9 ?kB ?_ ?c2 ?c3 ?c4 ?c5; (case kA => exact rfl); (case kF => exact rfl); (case kK => assumption); (case k1 => k_asm); (case k2 => k_asm); (case k3 => k_asm); (case k4 => k_asm); (case kO => k_asm); (case k5 => k_asm); (case k6 => k_is); (case k7 => k_is); (case k8 => ktr_room); (case k9 => first | exact BindsTo.of_eq rfl | exact binds_K (by k_in) rfl (by k_is) rfl rfl rfl | (refine' kp_binds ?kx ?ke; (case kx => k_in); (case ke => exact fun _ => rfl))); (case c5 => decide); (case kB => exact locs rfl); (case c2 => exact rfl); (case c3 => exact rfl); (case c4 => exact rfl); k_whole; intro g' L' h' FG' F' N' B' X' T' l1 lim'; (try k_lt l1); (try dsimp only); (try k_fold))))
  k_with "m:cl enterC" => (((refine wpAny_call ?_); k_dflt (refine' code_defCV ?k1 ?k2 ?k3 ?k4 ?kO ?k5 ?kA ?kF ?kK ?k6 ?k7 ?k8 ?k9 ?kB ?kD ?_ ?c2 ?c3 ?c4; (case kA => exact rfl); (case kF => exact rfl); (case kK => assumption); (case k1 => k_asm); (case k2 => k_asm); (case k3 => k_asm); (case k4 => k_asm); (case kO => k_asm); (case k5 => k_asm); (case k6 => k_is); (case k7 => k_is); (case k8 => ktr_room); (case k9 => first | exact BindsTo.of_eq rfl | exact binds_K (by k_in) rfl (by k_is) rfl rfl rfl | (refine' kp_binds ?kx ?ke; (case kx => k_in); (case ke => exact fun _ => rfl))); (case kB => exact rfl); (case kD => decide +kernel); (case c2 => exact rfl); (case c3 => exact rfl); (case c4 => exact rfl); k_whole; intro g' L' h' tk' cells' FG' F' N' Y' B' X' T' l1 lim'; (try k_lt l1); k_cells Y'; (try simp only [List.cons_append, List.nil_append] at N'); (try dsimp only); (try k_fold))))
  k_with "m:cl sub" => (first | exact fun _ h => h | exact List.forall_mem_nil _ | kcj_all)
  k_with "m:cl end" => ((refine' cl_end ?h ?N ?F ?N2 ?_ ?_; (case h => assumption); (case N => assumption); (case F => k_asm); (case N2 => k_asm); rotate_left))
  k_with "m:cl int" => ((refine' cl_end ?h ?N ?F ?N2 ?hn (r_int ?_); (case h => assumption); (case N => assumption); (case F => k_asm); (case N2 => k_asm); (case hn => walk_at "cl sub")))
  k_with "m:cl str" => ((refine' cl_end ?h ?N ?F ?N2 ?hn (r_str ?_); (case h => assumption); (case N => assumption); (case F => k_asm); (case N2 => k_asm); (case hn => walk_at "cl sub")))
  k_with "m:cl bool" => ((refine' cl_end ?h ?N ?F ?N2 ?hn (r_bool ?_); (case h => assumption); (case N => assumption); (case F => k_asm); (case N2 => k_asm); (case hn => walk_at "cl sub")))
  k_with "m:call builtin:list.append" => ((k_here; (with_reducible show wpAny _ _ (call (Value.builtin _) [Value.ref _, _]) _ _ _); k_dflt (refine' append_K ?k1 ?k2 ?k3 ?_ ?z; (case k1 => k_asm); (case k2 => k_asm); (case k3 => k_upd); (case z => exact Nat.le_of_ble_eq_true rfl); k_whole); intro h' F' N'; (try k_sweep)))
  k_with "m:call ref" => ((k_here; k_dflt (k_extra "call ref")))
  k_with "m:cl off1" => (first | exact List.forall_mem_nil _ | exact OwnOff.ne (by assumption) (by simp) | (refine List.forall_mem_cons.mpr ⟨?_, ?_⟩ <;> walk_at "cl off1") | k_ne)
  k_with "m:cl off" => ((unfold Off; walk_at "cl off1"))
  k_with "m:cl mem" => (first | exact List.forall_mem_nil _ | (refine List.forall_mem_cons.mpr ⟨by k_mem, ?_⟩; walk_at "cl mem") | (intro p9 h9; kst_mem))
  k_with "m:cl all" => (((try simp only [List.cons_append, List.nil_append, List.append_nil]); walk_at "cl mem"))
  k_with "m:execs cons" => ((k_here; (with_reducible refine tok_add ?_); intro tk; (try dsimp only); (try k_fold)))
  k_with "m:storeName" => ((k_here; first | ((with_reducible refine tok_sp ?_); intro t9) | ((with_reducible refine tok_st ?_); intro t9)))
  k_with "m:subscriptTail Name Constant ref int" => ((k_here; k_dflt (k_extra "tup")))
  k_with "m:notf" => (first | exact List.forall_mem_nil _ | (refine List.forall_mem_cons.mpr ⟨by first | exact notF_list | exact notF_cell (by assumption), ?_⟩; walk_at "notf"))
  k_with "m:eval ListComp" => ((k_here; k_dflt (refine LCg.ListComp_U (F₀ := by k_asm) (by with_unfolding_all rfl) (by decide) (by rfl) (by decide) (by rfl) ?_)))
  k_with "m:SrcC" => ((k_dflt (k_extra "src")))
  k_with "m:CompSrc" => ((k_dflt (k_extra "csrc")))
  k_with "m:eval ListComp" => ((k_here; k_dflt (refine ListComp_CF (by k_asm) (by with_unfolding_all rfl) (by rfl) (by rfl) (fun _ _ => by with_unfolding_all rfl) (by decide) ?_)))
  k_with "m:ap mem" => (first | with_reducible exact List.mem_cons_self | (refine List.mem_cons_of_mem _ ?_; walk_at "ap mem"))
  k_with "m:eval ListComp" => ((k_here; lct_look; lcg_calm; k_dflt (refine LCt.ListComp_T (F₀ := by k_asm) (by with_unfolding_all rfl) (by decide) (by rfl) (by decide) (by rfl) ?_); k_dflt lct_toSrc))
  k_with "m:CompSrcT" => ((k_here; k_dflt (k_extra "comp")))
  k_with "m:compareOp NotIn int ref" => ((k_here; (with_reducible show wpAny _ _ (compareOp CmpOp.NotIn (Value.int _ _) (Value.ref _)) _ _ _); k_dflt (refine' notin_list_ints ?s1 ?s2 ?_; (case s1 => is_list); (case s2 => with_reducible assumption))))
  k_with "m:exec Assign cons ListComp" => ((k_here; lct_look; lcg_calm; k_dflt (refine LCt.Assign_ListComp_T (F₀ := by k_asm) (by rfl) (by with_unfolding_all rfl) (by with_unfolding_all rfl) (by decide) (by rfl) (by decide) (by rfl) (by rfl) (by rfl) ?_); k_dflt lct_toSrc))
  k_with "m:apm" => (first | (refine' apart_ne ?apx ?apm; (case apx => with_reducible assumption); (case apm => walk_at "ap mem")) | (refine' apart_en ?apx ?apm; (case apx => with_reducible assumption); (case apm => walk_at "ap mem")))
  k_with "m:compareOp Eq ref ref" => ((k_here; (with_reducible show wpAny _ _ (compareOp CmpOp.Eq (Value.ref _) (Value.ref _)) _ _ _); k_dflt (refine' pair_eq ?pN ?pa ?pb ?pc ?qa ?qb ?qc ?xa ?xb ?xc ?ya ?yb ?yc ?za ?zb ?zc ?wa ?wb ?wc ?i1 ?i2 ?j1 ?j2 ?hu ?_; (case pN => k_asm); (case pa => k_mem); (case pb => rfl); (case pc => rfl); (case qa => k_mem); (case qb => rfl); (case qc => rfl); (case xa => k_mem); (case xb => rfl); (case xc => rfl); (case ya => k_mem); (case yb => rfl); (case yc => rfl); (case za => k_mem); (case zb => rfl); (case zc => rfl); (case wa => k_mem); (case wb => rfl); (case wc => rfl); (case i1 => with_reducible assumption); (case i2 => with_reducible assumption); (case j1 => with_reducible assumption); (case j2 => with_reducible assumption); (case hu => ke_room))))
  k_with "call ref" => ((with_reducible show wpAny _ _ (call (Value.ref 87) _) _ _ _); (refine' cl_uD (div_cl _ _ _ (num_in _)) ?Ak1 ?AkC ?Ak2 ?Ak3 ?Ak4 ?AkO ?Ak5 ?AkK ?Akd ?Aku ?_); (case Ak1 => k_asm); (case AkC => exact ⟨by assumption, by assumption⟩); (case Ak2 => k_asm); (case Ak3 => k_asm); (case Ak4 => k_asm); (case AkO => (first | walk_at "cl off" | fail "OFF")); (case Ak5 => k_asm); (case AkK => first | exact rfl | assumption); (case Akd => ktr_room); (case Aku => ktr_units); intro lim9 v9 n9 h9 tk9 lt9 R9 F9 N9; (obtain ⟨D9, t9, u9, c9, oc9, x9, y9, p9, e9, ex9, ey9, l9, l96, l98, ho9, e9'⟩ := R9); subst e9; subst e9'; (try simp only [List.cons_append, List.nil_append] at N9); (have kRot := news_rot N9); clear N9; (obtain ⟨Nx, N9⟩ := kRot); (try simp only [List.cons_append, List.nil_append] at N9); (have l99 : @LT.lt Nat _ 61 c9 := Nat.lt_trans (by decide) l96); (have kc9 := gnNe_of (code_ne Nx ho9 (by (first | walk_at "notf" | fail "NOTF")))); clear Nx; (try simp only [GnNe, and_true] at kc9); (k_lt lt9); subst ex9; subst ey9; (try dsimp only); (try k_fold))
  k_with "tup" => (first | (with_reducible show wpAny _ _ (subscriptTail _ _ _ (Value.int 0 _)) _ _ _); refine tup0 (News.get (by k_asm) (by k_mem)) ?_ | (with_reducible show wpAny _ _ (subscriptTail _ _ _ (Value.int 1 _)) _ _ _); refine tup1 (News.get (by k_asm) (by k_mem)) ?_)
  k_with "call ref" => ((with_reducible show wpAny _ _ (call (Value.ref 281) _) _ _ _); (refine' cl_uS1 (shelf_cl _ _ (div_in _).1 _ _ _ _ (w_strs _ _ _ _ _ _ _ _) rfl _ _ ho9 l99 ?Shne) ?Sk1 ?SkC ?Sk2 ?Sk3 ?Sk4 ?SkO ?Sk5 ?SkK ?Skd ?Sku ?_); (case Shne => exact ⟨by omega, by omega⟩); (case Sk1 => k_asm); (case SkC => exact ⟨by assumption, by assumption⟩); (case Sk2 => k_asm); (case Sk3 => k_asm); (case Sk4 => k_asm); (case SkO => (first | walk_at "cl off" | fail "OFF")); (case Sk5 => k_asm); (case SkK => first | exact rfl | assumption); (case Skd => ktr_room); (case Sku => ktr_units); intro lim9 v9 n9 h9 tk9 lt9 R9 F9 N9; (obtain ⟨S1, svs1, sj1, e9, hs1, l9, e9'⟩ := R9); subst e9; subst e9'; (try simp only [List.cons_append, List.nil_append] at N9); (k_lt lt9); (have l9s1 := l9);  (try dsimp only); (try k_fold))
  k_with "call ref" => ((with_reducible show wpAny _ _ (call (Value.ref 281) _) _ _ _); (refine' cl_uS2 (shelf_cl _ _ (div_in _).2 _ _ _ _ (w_strs _ _ _ _ _ _ _ _) rfl _ _ ho9 l99 ?Uhne) ?Uk1 ?UkC ?Uk2 ?Uk3 ?Uk4 ?UkO ?Uk5 ?UkK ?Ukd ?Uku ?_); (case Uhne => exact ⟨by omega, by omega⟩); (case Uk1 => k_asm); (case UkC => exact ⟨by assumption, by assumption⟩); (case Uk2 => k_asm); (case Uk3 => k_asm); (case Uk4 => k_asm); (case UkO => (first | walk_at "cl off" | fail "OFF")); (case Uk5 => k_asm); (case UkK => first | exact rfl | assumption); (case Ukd => ktr_room); (case Uku => ktr_units); intro lim9 v9 n9 h9 tk9 lt9 R9 F9 N9; (obtain ⟨S2, svs2, sj2, e9, hs2, l9, e9'⟩ := R9); subst e9; subst e9'; (try simp only [List.cons_append, List.nil_append] at N9); (k_lt lt9); (have l9s2 := l9); (try dsimp only); (try k_fold))
  k_with "call ref" => ((with_reducible show wpAny _ _ (call (Value.ref 288) _) _ _ _); (refine' cl_uK (kept_cl _ _ _ _ _ _ _ _ (w_strs _ _ _ _ _ _ _ _) rfl hs1 ?Khs8 wo_ok ?Khso ?Khne) ?Kk1 ?KkC ?Kk2 ?Kk3 ?Kk4 ?KkO ?Kk5 ?KkK ?Kkd ?Kku ?_); (case Khs8 => exact Nat.le_trans (shelf_ok (div_in _).1).2 (by decide)); (case Khso => exact (shelf_ok (div_in _).1).1); (case Khne => omega); (case Kk1 => k_asm); (case KkC => exact ⟨by assumption, by assumption⟩); (case Kk2 => k_asm); (case Kk3 => k_asm); (case Kk4 => k_asm); (case KkO => (first | walk_at "cl off" | fail "OFF")); (case Kk5 => k_asm); (case KkK => first | exact rfl | assumption); (case Kkd => ktr_room); (case Kku => ktr_units); intro lim9 v9 n9 h9 tk9 lt9 R9 F9 N9; (obtain ⟨K1, kvs1, kj1, e9, hk1, l9, e9'⟩ := R9); subst e9; subst e9'; (obtain ⟨T1, hT1, hT18, hT1i, hq1⟩ := kept_nm (div_in _).1 hk1); clear hk1 hs1; (try simp only [List.cons_append, List.nil_append] at N9); (k_lt lt9); (have l9k1 := l9); (try dsimp only); (try k_fold))
  k_with "call ref" => ((with_reducible show wpAny _ _ (call (Value.ref 288) _) _ _ _); (refine' cl_uK (kept_cl _ _ _ _ _ _ _ _ (w_strs _ _ _ _ _ _ _ _) rfl hs2 ?Vhs8 wo_ok ?Vhso ?Vhne) ?Vk1 ?VkC ?Vk2 ?Vk3 ?Vk4 ?VkO ?Vk5 ?VkK ?Vkd ?Vku ?_); (case Vhs8 => exact Nat.le_trans (shelf_ok (div_in _).2).2 (by decide)); (case Vhso => exact (shelf_ok (div_in _).2).1); (case Vhne => omega); (case Vk1 => k_asm); (case VkC => exact ⟨by assumption, by assumption⟩); (case Vk2 => k_asm); (case Vk3 => k_asm); (case Vk4 => k_asm); (case VkO => (first | walk_at "cl off" | fail "OFF")); (case Vk5 => k_asm); (case VkK => first | exact rfl | assumption); (case Vkd => ktr_room); (case Vku => ktr_units); intro lim9 v9 n9 h9 tk9 lt9 R9 F9 N9; (obtain ⟨K2, kvs2, kj2, e9, hk2, l9, e9'⟩ := R9); subst e9; subst e9'; (obtain ⟨T2, hT2, hT28, hT2i, hq2⟩ := kept_nm (div_in _).2 hk2); clear hk2 hs2; (try simp only [List.cons_append, List.nil_append] at N9); (k_lt lt9); (have l9k2 := l9); (try dsimp only); (try k_fold))
  k_with "src" => ((refine' SrcC.ledger ?Rq1 ?Rq2 ?Rq3 ?Rq4 ?Rq5 ?Rq6); (case Rq1 => (with_unfolding_all rfl)); (case Rq2 => k_asm); (case Rq3 => k_asm); (case Rq4 => k_mem); (case Rq5 => exact Nat.le_of_ble_eq_true rfl); intro g'; (refine' comp_rows2 rowF ?Rs ?Rt ?Rf); (case Rs => exact fun rows => .inr ⟨_, List.mem_append_left _ (by k_mem), rfl, _, rfl⟩); (case' Rt => intro i5 v5 rows5 I5 oI5 C5 oC5 cc5 occ5 D5 ys5 h5 tk5 E5 kM5 hi5 hP5 hd5 F5 N5 kNe5; (obtain ⟨hi58, t5, e5⟩ := pw_nat (w_strs _ _ _ _ _ _ _ _) i5 v5 hP5); subst e5; (try simp only [List.cons_append, List.nil_append] at N5); (try dsimp only)); (case' Rf => intro ys6 rows6 kM6 kOwn6 kR6 D6 h6 tk6 F6 N6 kOff6; (have kc6 := apart_of (fun p hp => kOff6 p (List.mem_append_left _ hp))); (try simp only [List.map_cons, List.map_nil] at kc6); (have kOwn7 := own_cons kOwn6 (fun p hp => kOff6 p (List.mem_append_right _ hp))); clear kOwn6 kOff6; (obtain ⟨rs6, eys6, hrs6, kRows6⟩ := rows_in (news := (D6, LCg.lst ys6) :: rows6) kR6 List.mem_cons_self (fun p hp => List.mem_cons_of_mem _ hp)); (try simp only [List.cons_append, List.nil_append] at N6); (try simp only [List.map_cons, List.map_nil] at kOwn7); (try dsimp only); (try k_fold)))
  k_with "csrc" => ((refine' LCg.CompSrc.ledger ?Iq1 ?Iq2 ?Iq3 ?Iq4 ?Iq5 ?Iq6); (case Iq1 => (with_unfolding_all rfl)); (case Iq2 => k_asm); (case Iq3 => k_asm); (case Iq4 => k_mem); (case Iq5 => exact Nat.le_of_ble_eq_true rfl); intro g'; (refine' comp_gen0 (ks := rangeKs 0 8) ElW (ZA i5) (ElA i5) ((rangeKs_length 0 8).trans rfl) (pw_at (zw_words (w_strs _ _ _ _ _ _ _ _))) IntsAre.nil (za1 i5) ?IS ?It ?If); (case IS => exact .inr ⟨_, by k_mem, rfl, _, rfl⟩); (case' It => intro k7 v7 I7 oI7 C7 oC7 D7 m7 zs7 l7 h7 tk7 E7 kM7 kMem7 kEl7 kZ7 kC7 kx7 F7 N7 kOff7 kNe7; (obtain ⟨u7, e7⟩ := kEl7); subst e7; (try dsimp only)); (case' If => intro zs8 kZ8; (try dsimp only)))
  k_with "call ref" => ((with_reducible show wpAny _ _ (call (Value.ref 274) _) _ _ _); (refine' cl_use0 (apart_clW (i5 : Int) k7 (i58 hi58) (by have := mem_rangeKs kMem7; omega) _ _) ?Pk1 ?PkC ?Pk2 ?Pk3 ?Pk4 ?Pk5 ?PkK ?Pkd ?Pku ?_); (case Pk1 => k_asm); (case PkC => exact ⟨by assumption, by assumption⟩); (case Pk2 => k_asm); (case Pk3 => k_asm); (case Pk4 => k_asm); (case Pk5 => k_asm); (case PkK => first | exact rfl | assumption); (case Pkd => ktr_room); (case Pku => ktr_units); intro lim9 v9 n9 h9 tk9 lt9 R9 F9 N9; (obtain ⟨e9, t9, e9'⟩ := R9); subst e9; subst e9'; (try dsimp only [List.nil_append] at N9); (try dsimp only); (try k_fold))
  k_with "comp" => ((refine' LCt.CompSrcT.range (n := 8) (a := 0) (b := 8) ?wq1 ?wq2 ?wq3 ?wq4 ?wq5 ?wq6 ?wq7 ?wq8); (case wq1 => (with_unfolding_all rfl)); (case wq2 => k_asm); (case wq3 => k_asm); (case wq4 => assumption); (case wq5 => decide); (case wq6 => rfl); (case wq7 => exact Nat.le_of_ble_eq_true rfl); intro g'; (refine' comp_gen (ks := rangeKs 0 8) ElI (fun k => wonF reachD k U1 U2 (rangeKs 0 8)) IntsAre ElI ?ww1 ?ww2 ?ww3 ?ww4 ?ww5 ?ww6 ?ww7); (case ww1 => exact rangeKs_length _ _); (case ww2 => exact pr_at); (case ww3 => exact .nil); (case ww4 => exact zi1); (case ww5 => trivial); (case' ww6 => intro k5 v5 I5 oI5 C5 oC5 D5 m5 zs5 l5 h5 tk5 E5 kM5 kMem5 kEl5 kZ5 kC5 kx5 F5 N5 kOff5 kNe5; (obtain ⟨u5, e5⟩ := kEl5); subst e5; (try dsimp only); (have kB5 := mem_rangeKs kMem5); (obtain ⟨kAI5, kAC5, kAD5⟩ := off3_ap kOff5); clear kOff5; (try simp only [List.nil_append, List.cons_append, List.map_cons, List.map_nil] at kAI5 kAC5 kAD5)); (case' ww7 => intro zsw kZw; (unfold LCg.FinA); intro Dw hw tkw Fw Nw ow; (obtain ⟨V, hV, hV8, hv⟩ := won_nm kZw); clear kZw; (have kOwn10 := own_cons kOwn9 (fun p hp => off1_all ow p (by kst_mem))); clear kOwn9; (replace ow := apart_off ow); (try simp only [List.nil_append, List.cons_append, List.map_cons, List.map_nil] at ow); (try simp only [List.nil_append, List.cons_append] at Nw); (have kUsedW : True := trivial); (try dsimp only)))
  k_with "comp" => ((fail_if_success (have q := kUsedY; skip)); (refine' LCt.CompSrcT.range (n := 8) (a := 0) (b := 8) ?yq1 ?yq2 ?yq3 ?yq4 ?yq5 ?yq6 ?yq7 ?yq8); (case yq1 => (with_unfolding_all rfl)); (case yq2 => k_asm); (case yq3 => k_asm); (case yq4 => assumption); (case yq5 => decide); (case yq6 => rfl); (case yq7 => exact Nat.le_of_ble_eq_true rfl); intro g'; (refine' comp_gen (ks := rangeKs 0 8) ElI (fun k => !(T2.any (· == k))) IntsAre ElI ?yw1 ?yw2 ?yw3 ?yw4 ?yw5 ?yw6 ?yw7); (case yw1 => exact rangeKs_length _ _); (case yw2 => exact pr_at); (case yw3 => exact .nil); (case yw4 => exact zi1); (case yw5 => trivial); (case' yw6 => intro k4 v4 I4 oI4 C4 oC4 D4 m4 zs4 l4 h4 tk4 E4 kM4 kMem4 kEl4 kZ4 kC4 kx4 F4 N4 kOff4 kNe4; (obtain ⟨u4, e4⟩ := kEl4); subst e4; (try dsimp only); (have kB4 := mem_rangeKs kMem4); (obtain ⟨kAI4, kAC4, kAD4⟩ := off3_ap kOff4); clear kOff4; (try simp only [List.nil_append, List.cons_append, List.map_cons, List.map_nil] at kAI4 kAC4 kAD4)); (case' yw7 => intro zsy kZy; (unfold LCg.FinE); intro Dy hy tky Fy Ny oy; (obtain ⟨U2, hU2, hU28, hU2i, hu2⟩ := rest_nm hT2 kZy); clear kZy; (have kOwn9 := own_cons kOwn8 (fun p hp => off1_all oy p (by kst_mem))); clear kOwn8; (replace oy := apart_off oy); (try simp only [List.nil_append, List.cons_append, List.map_cons, List.map_nil] at oy); (try simp only [List.nil_append, List.cons_append] at Ny); (have kUsedY : True := trivial); (try dsimp only)))
  k_with "comp" => ((fail_if_success (have q := kUsedR; skip)); (refine' LCt.CompSrcT.range (n := 8) (a := 0) (b := 8) ?rq1 ?rq2 ?rq3 ?rq4 ?rq5 ?rq6 ?rq7 ?rq8); (case rq1 => (with_unfolding_all rfl)); (case rq2 => k_asm); (case rq3 => k_asm); (case rq4 => assumption); (case rq5 => decide); (case rq6 => rfl); (case rq7 => exact Nat.le_of_ble_eq_true rfl); intro g'; (refine' comp_gen (ks := rangeKs 0 8) ElI (fun k => !(T1.any (· == k))) IntsAre ElI ?rw1 ?rw2 ?rw3 ?rw4 ?rw5 ?rw6 ?rw7); (case rw1 => exact rangeKs_length _ _); (case rw2 => exact pr_at); (case rw3 => exact .nil); (case rw4 => exact zi1); (case rw5 => trivial); (case' rw6 => intro k3 v3 I3 oI3 C3 oC3 D3 m3 zs3 l3 h3 tk3 E3 kM3 kMem3 kEl3 kZ3 kC3 kx3 F3 N3 kOff3 kNe3; (obtain ⟨u3, e3⟩ := kEl3); subst e3; (try dsimp only); (have kB3 := mem_rangeKs kMem3); (obtain ⟨kAI3, kAC3, kAD3⟩ := off3_ap kOff3); clear kOff3; (try simp only [List.nil_append, List.cons_append, List.map_cons, List.map_nil] at kAI3 kAC3 kAD3)); (case' rw7 => intro zsr kZr; (unfold LCg.FinE); intro Dr hr tkr Fr Nr or; (obtain ⟨U1, hU1, hU18, hU1i, hu1⟩ := rest_nm hT1 kZr); clear kZr; (have kOwn8 := own_cons kOwn7 (fun p hp => off1_all or p (by kst_mem))); clear kOwn7; (replace or := apart_off or); (try simp only [List.nil_append, List.cons_append, List.map_cons, List.map_nil] at or); (try simp only [List.nil_append, List.cons_append] at Nr); (have kUsedR : True := trivial); (try dsimp only)))
  k_with "call ref" => ((with_reducible show wpAny _ _ (call (Value.ref 302) _) _ _ _); (refine' cl_uW (won_cl D6 Dr Dy rs6 reachD far_D k5 _ zsr zsy U1 U2 zsr.length zsy.length hu1 hU18 hU1i hu2 hU28 hU2i ?Wha ?Whoff ?Wh12) ?WP ?Wk1 ?WkC ?Wk2 ?Wk3 ?Wk4 ?WkO ?Wk5 ?WkK ?Wkd ?Wku ?_); (case Wha => omega); (case Whoff => exact rows_off hrs6 kOwn9 (by walk_at "ap mem") (by walk_at "ap mem") (by walk_at "apm") (by walk_at "apm")); (case Wh12 => walk_at "apm"); (case WP => exact kRows6 _ (rows_at (by k_asm) (by k_mem) (fun p hp => by kst_mem))); (case Wk1 => k_asm); (case WkC => exact ⟨by assumption, by assumption⟩); (case Wk2 => k_asm); (case Wk3 => k_asm); (case Wk4 => k_asm); (case WkO => (first | walk_at "cl off" | fail "OFF")); (case Wk5 => k_asm); (case WkK => first | exact rfl | assumption); (case Wkd => ktr_room); (case Wku => ktr_units); intro lim9 v9 n9 h9 tk9 lt9 R9 F9 N9; (obtain ⟨e9', e9⟩ := R9); subst e9; subst e9'; (try simp only [List.cons_append, List.nil_append] at N9); (try dsimp only); (try k_fold))
  k_with "call ref" => ((with_reducible show wpAny _ _ (call (Value.ref 314) _) _ _ _); (refine' cl_uF (facing_cl _ _ _ _ _ _ _ _ _ T1 T2 (w_strs _ _ _ _ _ _ _ _) hq1 hT18 hT1i hq2 hT28 hT2i ?Fh12 ?Fh13 ?Fh23) ?Fk1 ?FkC ?Fk2 ?Fk3 ?Fk4 ?FkO ?Fk5 ?FkK ?Fkd ?Fku ?_); (case Fk1 => k_asm); (case FkC => exact ⟨by assumption, by assumption⟩); (case Fk2 => k_asm); (case Fk3 => k_asm); (case Fk4 => k_asm); (case Fh12 => k_ne); (case Fh13 => k_ne); (case Fh23 => k_ne); (case FkO => (first | walk_at "cl off" | fail "OFF")); (case Fk5 => k_asm); (case FkK => first | exact rfl | assumption); (case Fkd => ktr_room); (case Fku => ktr_units); intro lim9 v9 n9 h9 tk9 lt9 R9 F9 N9; (obtain ⟨Df, fvs, fj, e9, hf1, l9, e9'⟩ := R9); subst e9; subst e9'; (obtain ⟨M, hM, hM8, hf⟩ := face_nm hT18 hf1); clear hf1; (try simp only [List.cons_append, List.nil_append] at N9); (k_lt lt9); (have l9f := l9); (have kLaw := law_end (div_in _).1 (div_in _).2 hT1 hT2 hU1 hU2 hV hM); (obtain ⟨kLaw1, kLaw2, kLaw3, kLaw4⟩ := kLaw); (have kLen1 := hq1.length); (have kLen2 := hq2.length); (have kLenV := hv.length); (have kLenM := hf.length); (try dsimp only); (try k_fold))
  k_with "call ref" => ((with_reducible show wpAny _ _ (call (Value.ref 326) _) _ _ _); (refine' cl_use0 (due_clN _ (num_in _) _ _) ?Gk1 ?GkC ?Gk2 ?Gk3 ?Gk4 ?Gk5 ?GkK ?Gkd ?Gku ?_); (case Gk1 => k_asm); (case GkC => exact ⟨by assumption, by assumption⟩); (case Gk2 => k_asm); (case Gk3 => k_asm); (case Gk4 => k_asm); (case Gk5 => k_asm); (case GkK => first | exact rfl | assumption); (case Gkd => ktr_room); (case Gku => ktr_units); intro lim9 v9 n9 h9 tk9 lt9 R9 F9 N9; (obtain ⟨Dd, Wd, Md, wsd, msd, jd, e9, hwd, hmd, e9'⟩ := R9); subst e9; subst e9'; (try simp only [List.cons_append, List.nil_append] at N9); (rw [← kLaw3] at hwd); (rw [← kLaw4] at hmd); (k_lt lt9); (try dsimp only); (try k_fold))
  k_steps
  all_goals (first
    | (refine' rowEnd (zs := zs8) kZ8 ?z2 ?z3 ?z4; (case z2 => k_asm); (case z3 => k_asm); (case z4 => ((try simp only [List.cons_append, List.nil_append]); refine off1_all ?_; (simp only [LCg.Off1]); assumption)))
    | (have q := kMem7; exact tel (by k_asm) (by k_asm) (fun q hq => hq) ⟨_, rfl⟩)
    | (have q := kMem5; first | exact tel (by k_asm) N9 perm_w ⟨by with_reducible assumption, _, rfl⟩ | exact tel (by k_asm) N9 perm_w (by with_reducible assumption))
    | (first | exact tel (by k_asm) (by k_asm) (fun q hq => hq) ⟨not_t (by assumption), _, rfl⟩ | exact tel (by k_asm) (by k_asm) (fun q hq => hq) (not_f (by assumption))))

end
end Mine
theorem PySem.Challenge.cw_sn0086_01_holds : PySem.Challenge.rw_sn0086_01.Holds := by
  exact Mine.law_holds
