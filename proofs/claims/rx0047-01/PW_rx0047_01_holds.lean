import PyProof.Rows.All
import Wide.All
import OpenK.AllK
import Wide.FinOn
import PyProof.ExcBaseAll.ValueError
import Lean
import PySem.Challenge.RW_rx0047_01
set_option Elab.async false
set_option maxRecDepth 100000
set_option compiler.extract_closed false
set_option linter.all false
local macro_rules | `(tactic| walk_at $s:str) => `(tactic| k_extra $(Lean.Syntax.mkStrLit ("9" ++ s.getString)))
local macro_rules | `(tactic| k_all) => `(tactic| k_extra "k_all")
local macro_rules | `(tactic| k_ne) => `(tactic| k_extra "k_ne")
local macro_rules | `(tactic| k_room) => `(tactic| k_extra "k_room")
local macro_rules | `(tactic| ksw_same) => `(tactic| k_extra "ksw_same")
local macro_rules | `(tactic| omega) => `(tactic| k_extra "omega")
local macro_rules | `(tactic| size_fits) => `(tactic| k_extra "size_fits")
section
open PySem PySem.W PyProof.Rows
set_option maxHeartbeats 8000000
set_option hygiene false in
local macro_rules | `(tactic| o_head $H) => `(tactic| exact h0)
theorem kw1 : True := by
  (k_with "9nm" => (rename Fr _ _ _ _ => F'; rename News _ _ _ _ => N'))
  (k_with "9co" => ((case X => k_asm); (case T => k_asm); (case a => rfl); (case b => rfl); (case k => first | exact Nat.le_of_ble_eq_true rfl | omega); k_whole))
  (k_with "pj" => (with_reducible (rename _ ∧ _ => q9; first | exact q9.1 | exact q9.2.1 | exact q9.2.2.1 | exact q9.2.2.2.1 | exact q9.2.2.2.2.1 | exact q9.2.2.2.2.2.1 | exact q9.2.2.2.2.2.2.1 | exact q9.2.2.2.2.2.2.2.1 | exact q9.2.2.2.2.2.2.2.2.1 | exact q9.2.2.2.2.2.2.2.2.2.1 | exact q9.2 | exact q9.2.2 | exact q9.2.2.2 | exact q9.2.2.2.2 | exact q9.2.2.2.2.2 | exact q9.2.2.2.2.2.2 | exact q9.2.2.2.2.2.2.2 | exact q9.2.2.2.2.2.2.2.2 | (clear q9; k_extra "pj"))))
  (k_with "lt" => first | with_reducible assumption | with_reducible exact Nat.lt_succ_self _ | with_reducible exact Nat.succ_pos _ | ((fail_if_success with_reducible refine ltn ?_); with_reducible refine Nat.lt_succ_of_lt ?_; k_extra "lt") | k_extra "pj" | with_reducible exact Nat.lt_of_succ_lt (by assumption))
  (k_with "ne" => first | with_reducible assumption | with_reducible exact Ne.symm (by assumption) | with_reducible exact Nat.ne_of_beq_eq_false rfl | k_extra "pj" | (with_reducible refine Ne.symm ?_; k_extra "pj") | (with_reducible refine Nat.ne_of_lt ?_; k_extra "lt") | (with_reducible refine Nat.ne_of_gt ?_; k_extra "lt"))
  (k_with "ud" => with_reducible first | exact ubr | exact uba (by assumption) | exact ubl (by assumption) | (apply ubz; k_extra "ud") | (apply uad <;> k_extra "ud") | exact ube (by assumption))
  (k_with "uc" => with_reducible first | exact ubr | exact uba (by assumption) | exact ubl (by assumption) | (apply ubz; k_extra "uc") | (apply uad <;> k_extra "uc") | exact ube (by assumption) | (apply utr; assumption; k_extra "ud") | (apply utl; assumption; k_extra "ud"))
  (k_with "ub" => with_reducible first | exact ubr | exact uba (by assumption) | exact ubl (by assumption) | (apply ubz; k_extra "ub") | (apply uad <;> k_extra "ub") | exact ube (by assumption) | (apply utr; assumption; k_extra "uc") | (apply utl; assumption; k_extra "uc"))
  (k_with "nn" => first | with_reducible exact Int.natCast_nonneg _ | with_reducible assumption | ((with_reducible apply inn) <;> k_extra "nn") | exact of_decide_eq_true (Eq.refl true))
  (k_with "bd" => first | with_reducible exact Nat.le_add_right _ _ | with_reducible exact Nat.le_add_left _ _ | ((with_reducible apply ub0); k_extra "ub"; exact rfl) | ((with_reducible apply ub1); k_extra "ub"; exact rfl) | ((with_reducible apply ic63); k_extra "ub"; exact rfl) | ((with_reducible apply ic63'); k_extra "ub"; exact rfl) | ((with_reducible apply icn); k_extra "ub"; exact rfl) | with_reducible exact sub_turn (by assumption) | ((with_reducible refine icl ?_); k_extra "bd") | ((with_reducible refine ict ?_); first | k_extra "lt" | k_extra "bd") | (with_reducible exact Nat.not_lt.mpr (by assumption)) | (with_reducible exact Nat.le_of_not_lt (by assumption)) | (with_reducible exact Int.not_lt.mpr (by assumption)) | (with_reducible exact Int.not_le.mpr (by assumption)) | (with_reducible exact Int.not_lt.mp (by assumption)) | (with_reducible exact Nat.le_of_lt_succ (by assumption)) | (with_reducible exact Nat.le_of_lt (by assumption)) | ((with_reducible show (0 : Int) ≤ _); k_extra "nn") | ((with_reducible show Int.toNat _ = _); exact rfl) | with_reducible exact tn2 | with_reducible exact tn6 | with_reducible exact sub_turn (Nat.lt_succ_of_le (by assumption)) | ((with_reducible refine mx_le ?_ ?_) <;> k_extra "bd") | ((with_reducible apply nlt2); exact rfl) | ((with_reducible apply nle2); exact rfl) | ((with_reducible apply zle2); exact rfl))
  (k_with "wq" => first | with_reducible (first | refine PySem.wpAny_pure ?_ | refine PySem.wpAny_bind ?_ | refine PySem.wpAny_holding ?_ | refine PySem.wpAny_standAt ?_ | refine PySem.wpAny_point ?_ | refine PySem.wpAny_rule ?_ | refine PySem.wpAny_letGo ?_ | refine PySem.wpAny_mkInt' ?_ | refine PySem.wpAny_mkStr' ?_ | refine PySem.wpAny_fresh' ?_ | refine PySem.wpAny_alloc' ?_ | refine PySem.wpAny_attempt ?_ | refine PySem.wpAny_throw ?_ | refine PySem.wpAny_of_eq (by assumption) ?_ | refine PySem.wpAny_typeOf (by assumption) ?_ | refine PySem.wpAny_specialOf_val (by assumption) (by assumption) ?_ | refine PySem.wpAny_specialOf (by assumption) (by assumption) ?_ | refine PySem.wpAny_isInstance_val (by assumption) (by assumption) ?_ | refine PySem.wpAny_isInstance (by assumption) (by assumption) ?_ | refine PySem.wpAny_call ?_ | refine PySem.wpAny_runValue ?_ | refine PySem.wpAny_run ?_) | ((with_reducible refine' PySem.wpAny_load' ?_ ?_); rotate_left 1; focus (heap_get; done)) | ((with_reducible refine' PySem.wpAny_update' ?_ ?_); rotate_left 1; focus (heap_get; done)) | ((with_reducible refine' PySem.wpAny_loadPart' ?_ ?_); rotate_left 1; focus (heap_get; done)) | ((with_reducible refine' PySem.wpAny_updatePart' ?_ ?_); rotate_left 1; focus (heap_get; done)) | ((with_reducible refine' PySem.wpAny_handled_none ?_ ?_); focus (assumption; done)) | ((with_reducible refine' PySem.wpAny_ite_false ?_ ?_); focus (rfl; done)) | ((with_reducible refine' PySem.wpAny_ite_true ?_ ?_); focus (rfl; done)) | ((with_reducible refine' PySem.wpAny_ite_false ?_ ?_); focus (simp [*]; done)) | ((with_reducible refine' PySem.wpAny_ite_true ?_ ?_); focus (simp [*]; done)) | wp_delta | with_reducible_and_instances refine PySem.wpAny_pure ?_ | with_reducible_and_instances refine PySem.wpAny_bind ?_)
  trivial
theorem Mine.hd0 (h0 : PySem.Challenge.rw_rx0047_01.row.Holds) : PySem.Challenge.rw_rx0047_01.row.Holds := by
  k_head
end
section
open PySem PySem.Spec PySem.Calls PyProof.Rows PySem.W
set_option maxHeartbeats 8000000
namespace Mine
theorem ub0 {u9a u9m u9n : Nat} (u9h : u9a ≤ u9m) (u9e : Nat.ble u9m u9n = true) : u9a ≤ u9n := Nat.le_trans u9h (Nat.le_of_ble_eq_true u9e)
theorem ub1 {u9a u9m u9n : Nat} (u9h : u9a ≤ u9m) (u9e : Nat.ble (u9m + 1) u9n = true) : u9a < u9n := Nat.lt_of_lt_of_le (Nat.lt_succ_of_le u9h) (Nat.le_of_ble_eq_true u9e)
theorem ubz {u9a u9m : Nat} (u9h : u9a ≤ u9m) : 0 + u9a ≤ u9m := by rw [Nat.zero_add]; exact u9h
theorem utl {u9a u9b u9c : Nat} (u9h : u9a < u9b) (u9k : u9b ≤ u9c) : u9a ≤ u9c := Nat.le_trans (Nat.le_of_lt u9h) u9k
theorem utr {u9a u9b u9c : Nat} (u9h : u9a ≤ u9b) (u9k : u9b ≤ u9c) : u9a ≤ u9c := Nat.le_trans u9h u9k
theorem uad {u9a u9b u9c u9d : Nat} (u9h : u9a ≤ u9b) (u9k : u9c ≤ u9d) : u9a + u9c ≤ u9b + u9d := Nat.add_le_add u9h u9k
theorem inn {u9a u9b : Int} (u9h : 0 ≤ u9a) (u9k : 0 ≤ u9b) : 0 ≤ u9a + u9b := Int.add_nonneg u9h u9k
theorem ubr {u9n : Nat} {u9i : OfNat Nat u9n} : @OfNat.ofNat Nat u9n u9i ≤ @OfNat.ofNat Nat u9n u9i := Nat.le_refl _
theorem uba {u9a u9n : Nat} {u9i : OfNat Nat u9n} (u9h : u9a ≤ @OfNat.ofNat Nat u9n u9i) : u9a ≤ @OfNat.ofNat Nat u9n u9i := u9h
theorem ubl {u9a u9n : Nat} {u9i : OfNat Nat u9n} (u9h : u9a < @OfNat.ofNat Nat u9n u9i) : u9a ≤ @OfNat.ofNat Nat u9n u9i - 1 := Nat.le_sub_one_of_lt u9h
theorem ube {u9a u9n : Nat} {u9i : OfNat Nat u9n} (u9h : u9a = @OfNat.ofNat Nat u9n u9i) : u9a ≤ @OfNat.ofNat Nat u9n u9i := Nat.le_of_eq u9h
theorem nlt2 {u9a u9n : Nat} {u9i : OfNat Nat u9a} {u9j : OfNat Nat u9n} (u9e : Nat.blt (@OfNat.ofNat Nat u9a u9i) (@OfNat.ofNat Nat u9n u9j) = true) : @OfNat.ofNat Nat u9a u9i < @OfNat.ofNat Nat u9n u9j := Nat.le_of_ble_eq_true u9e
theorem nle2 {u9a u9n : Nat} {u9i : OfNat Nat u9a} {u9j : OfNat Nat u9n} (u9e : Nat.ble (@OfNat.ofNat Nat u9a u9i) (@OfNat.ofNat Nat u9n u9j) = true) : @OfNat.ofNat Nat u9a u9i ≤ @OfNat.ofNat Nat u9n u9j := Nat.le_of_ble_eq_true u9e
theorem zle2 {u9a u9n : Nat} {u9i : OfNat Int u9a} {u9j : OfNat Int u9n} (u9e : decide ((@OfNat.ofNat Int u9a u9i) ≤ (@OfNat.ofNat Int u9n u9j)) = true) : @OfNat.ofNat Int u9a u9i ≤ @OfNat.ofNat Int u9n u9j := of_decide_eq_true u9e
theorem tn2 {a : Nat} : ((a : Nat) : Int).toNat < ((a : Int) + 2).toNat := Nat.lt_add_of_pos_right (by decide)
theorem tn6 {a : Nat} : ((a : Nat) : Int).toNat < ((a : Int) + 6).toNat := Nat.lt_add_of_pos_right (by decide)
theorem mx_le {u9a u9b u9c : Nat} (u9h : u9a ≤ u9c) (u9k : u9b ≤ u9c) : max u9a u9b ≤ u9c := Nat.max_le.mpr ⟨u9h, u9k⟩
theorem zturn {K k : Int} (h : k < K) : (K - (k + 1)).toNat < (K - k).toNat := (Int.toNat_lt_toNat (Int.sub_pos.mpr h)).mpr (Int.sub_lt_sub_left (Int.lt_succ k) K)
theorem pl3 {p i x n : Nat} (hx : 1 ≤ x) (h : i + x ≤ n - p) : p + i + x ≤ n := by
  rw [Nat.add_assoc, Nat.add_comm]
  exact Nat.add_le_of_le_sub (Nat.le_of_lt (Nat.lt_of_sub_pos (Nat.lt_of_lt_of_le hx (Nat.le_trans (Nat.le_add_left x i) h)))) h
theorem mxlt {n p x : Nat} : n < max p (n + 1 - x) + x := Nat.lt_of_lt_of_le (Nat.lt_succ_self n) (Nat.le_trans (Nat.sub_le_iff_le_add.mp (Nat.le_refl _)) (Nat.add_le_add_right (Nat.le_max_right p _) x))
theorem one_le {x : List Nat} (hx : x ≠ []) : 1 ≤ x.length := List.length_pos_iff.mpr hx
theorem ltn {u9a u9n : Nat} {u9i : OfNat Nat u9n} (u9h : u9a < @OfNat.ofNat Nat u9n u9i) : u9a < @OfNat.ofNat Nat u9n u9i := u9h
theorem sub_turn {u9n u9k : Nat} (u9h : u9k < u9n) : u9n - (u9k + 1) < u9n - u9k := Nat.sub_lt_sub_left u9h (Nat.lt_succ_self u9k)
theorem icl {u9a u9n : Nat} (u9h : u9a ≤ u9n) : (u9a : Int) ≤ (u9n : Int) := Int.ofNat_le.mpr u9h
theorem ict {u9a u9n : Nat} (u9h : u9a < u9n) : (u9a : Int) < (u9n : Int) := Int.ofNat_lt.mpr u9h
theorem icn {u9a u9m u9n : Nat} {u9i : OfNat Int u9n} (u9h : u9a ≤ u9m) (u9e : decide ((u9m : Int) ≤ @OfNat.ofNat Int u9n u9i) = true) : (u9a : Int) ≤ @OfNat.ofNat Int u9n u9i := Int.le_trans (icl u9h) (of_decide_eq_true u9e)
theorem ic63 {u9a u9m : Nat} (u9h : u9a ≤ u9m) (u9e : Nat.ble u9m 9223372036854775807 = true) : (u9a : Int) < 2 ^ 63 := Int.lt_of_lt_of_le (Int.ofNat_lt.mpr (Nat.lt_succ_of_le (ub0 u9h u9e))) (by decide)
theorem ic63' {u9a u9m : Nat} (u9h : u9a ≤ u9m) (u9e : Nat.ble u9m 9223372036854775807 = true) : (u9a : Int) < 9223372036854775808 := Int.lt_of_lt_of_le (Int.ofNat_lt.mpr (Nat.lt_succ_of_le (ub0 u9h u9e))) (by decide)
noncomputable abbrev ar (hd : Option Value) (dp un : Nat) (gd : Option (List Code)) (env : Env) (outer : List Env) : Around :=
  { handled := hd, depth := dp, frames := some (env :: outer), guards := gd, units := un }
noncomputable abbrev listO (vs : List Value) : Obj := { cls := .type "list", data := .seq vs.toArray }
theorem enter {prog : Program} {w : World} {A₀ A : Around} {s : Shared} {base h₀ : Heap} {outer : List Env} {L : Addr} {m : Str → Option Value} {env : Env} {tb news : List (Addr × Obj)}
    {R : Result → Shared → Prop} {name qual : Str} {params : Arguments} {body : List Stmt} {scope : Scope} {cl : List (Str × Addr)} {dV kV doc pm cdv ct : Value} {an : Option Addr} {fo : Obj} {f : Addr} {args : Args} {binds : List (Str × Value)}
    (B : Below A₀ base outer h₀) (F : Fr h₀ L s.heap m) (N0 : News h₀ L s.heap news) (htb : ∀ p ∈ tb, p ∈ news) (hlim : h₀.NoLimit) (hA : A.frames = some (env :: outer)) (hf : env.frame = some L) (hke : env.scope.kind = .function)
    (ho : s.heap.get? f = some fo) (hd : fo.data = .func (fnX name qual params body scope cl dV kV doc pm an cdv ct)) (hcd : s.heap.CodeRec cdv qual) (hroom : A.depth < recursionLimit)
    (hbind : BindsTo s (fnX name qual params body scope cl dV kV doc pm an cdv ct) args binds) (hloc : ∀ y ∈ binds, scope.names.lookup y.1 = some .local)
    (h : ∀ g L' h₁ tk, g = hideAll s.heap (tb.map (·.1)) → Fr g L' h₁ (fun y => binds.reverse.lookup y) → News g L' h₁ tb → Below A base (env :: outer) g →
      h₀.StaysIn g → (∀ p ∈ tb, p.1 < L') →
      wpAny (model prog w) (A.deeper (envX qual scope L' f cdv cl)) (execs body (envX qual scope L' f cdv cl))
        (fun fl s' => R (.ok (.ret (match fl with | .ret v => v | _ => .none))) s')
        (fun e s' => wpAny (model prog w) (A.deeper (envX qual scope L' f cdv cl)) (leaving (envX qual scope L' f cdv cl) e) (fun _ s'' => R (.error e) s'') (fun e' s'' => R (.error e') s'') s')
        { s with heap := h₁, toks := tk })
    (hcell : ∀ x ∈ scope.names, x.2 ≠ .cell) (hco : scope.isCoroutine = false := by rfl) (hgen : scope.isGenerator = false := by rfl) (hk : scope.kind = .function := by rfl) : codeAny (model prog w) A (.call (.ref f) args) R s := by
  have N : News h₀ L s.heap tb := cb_drop N0 htb
  obtain ⟨FG, BG, st, lv⟩ := groundX (R := R) B F N hA hf hke
  refine codeAny_call_def (fd := fnX name qual params body scope cl dV kV doc pm an cdv ct) (body := body) (binds := binds) hroom ho hd (hlim.keeps F.keep) hcd rfl hbind hcell hloc (fun h₁ hns hk₁ => ?_) hco hgen hk
  exact h _ s.heap.objs.size h₁ _ rfl ⟨hns, fun b o e => hk₁ b o (of_hideAll _ e), Nat.le_of_eq (hideAll_size _ _)⟩
    (fun p hp => ⟨hk₁ _ _ (N p hp).1, Nat.ne_of_lt (Heap.lt_size (N p hp).1), hideAll_none _ (List.mem_map_of_mem hp)⟩) BG st (fun p hp => Heap.lt_size (N p hp).1)
theorem enterC {prog : Program} {w : World} {A₀ A : Around} {s : Shared} {base h₀ : Heap} {outer : List Env} {L : Addr} {m : Str → Option Value} {env : Env} {tb news : List (Addr × Obj)}
    {R : Result → Shared → Prop} {name qual : Str} {params : Arguments} {body : List Stmt} {scope : Scope} {dV kV doc pm cdv ct : Value} {an : Option Addr} {fo : Obj} {f : Addr} {args : Args} {binds : List (Str × Value)}
    (B : Below A₀ base outer h₀) (F : Fr h₀ L s.heap m) (N0 : News h₀ L s.heap news) (htb : ∀ p ∈ tb, p ∈ news) (hlim : h₀.NoLimit) (hA : A.frames = some (env :: outer)) (hf : env.frame = some L) (hke : env.scope.kind = .function)
    (ho : s.heap.get? f = some fo) (hd : fo.data = .func (fnX name qual params body scope [] dV kV doc pm an cdv ct)) (hcd : s.heap.CodeRec cdv qual) (hroom : A.depth < recursionLimit)
    (hbind : BindsTo s (fnX name qual params body scope [] dV kV doc pm an cdv ct) args binds)
    (hkind : (binds.all fun y => scope.names.lookup y.1 == some .local || scope.names.lookup y.1 == some .cell) = true)
    (hnd : ((cellsFrom 0 scope.names []).map (·.1)).Nodup)
    (h : ∀ g L' h₁ tk cells, g = hideAll s.heap (tb.map (·.1)) → Fr g L' h₁ (bindL (envOfC qual scope L' f cdv).kindOf binds fun _ => none) → News g L' h₁ (cells ++ tb) →
      CellsAre (bindC (envOfC qual scope L' f cdv).kindOf binds fun _ => none) (cellsFrom (L' + 1) scope.names []) cells → Below A base (env :: outer) g →
      h₀.StaysIn g → (∀ p ∈ tb, p.1 < L') →
      wpAny (model prog w) (A.deeper (envOfC qual scope L' f cdv)) (execs body (envOfC qual scope L' f cdv))
        (fun fl s' => R (.ok (.ret (match fl with | .ret v => v | _ => .none))) s')
        (fun e s' => wpAny (model prog w) (A.deeper (envOfC qual scope L' f cdv)) (leaving (envOfC qual scope L' f cdv) e) (fun _ s'' => R (.error e) s'') (fun e' s'' => R (.error e') s'') s')
        { s with heap := h₁, toks := tk })
    (hco : scope.isCoroutine = false := by rfl) (hgen : scope.isGenerator = false := by rfl) (hk : scope.kind = .function := by rfl) : codeAny (model prog w) A (.call (.ref f) args) R s := by
  have N : News h₀ L s.heap tb := cb_drop N0 htb
  obtain ⟨FG, BG, st, lv⟩ := groundX (R := R) B F N hA hf hke
  refine codeAny_call_function hroom ho hd hco hgen rfl hcd (hbind _ _ _ _ ?_)
  refine wpAny_newFunctionEnv_cells hk (kindsX hkind _) fun env' he s' x => ?_
  subst he
  refine ⟨(hlim.keeps F.keep).keeps x.toInCall.keep, codeAny_func ?_⟩
  obtain ⟨h₁, tk, rfl, _⟩ := x.done
  have hk₁ := x.toInCall.keep
  obtain ⟨cells, NC, Y⟩ := Cl.news (h₀ := s.heap) (Nat.le_refl _) fun n c hm => ⟨x.cell n c (lookup_of_mem_nodup (cellsFrom_names scope.names 0 (s.heap.objs.size + 1) [] [] rfl ▸ hnd) hm), x.above n c hm⟩
  refine h _ s.heap.objs.size h₁ tk cells rfl ⟨x.toInCall.ns, fun b o e => hk₁ b o (of_hideAll _ e), Nat.le_of_eq (hideAll_size _ _)⟩ (fun p hp => ?_) Y BG st (fun p hp => Heap.lt_size (N p hp).1)
  rcases List.mem_append.mp hp with hp | hp
  · refine ⟨(NC p hp).1, (NC p hp).2.1, ?_⟩
    cases q : (hideAll s.heap (tb.map (·.1))).get? p.1 with
    | none => rfl
    | some o => have := of_hideAll _ q; rw [(NC p hp).2.2] at this; cases this
  · exact ⟨hk₁ _ _ (N p hp).1, Nat.ne_of_lt (Heap.lt_size (N p hp).1), hideAll_none _ (List.mem_map_of_mem hp)⟩
noncomputable abbrev S (l : List Nat) : Str := ⟨l.toArray⟩
structure Amb (w : World) (base h₀ : Heap) (L : Addr) (m : Str → Option Value) (env : Env) (outer : List Env) (news : List (Addr × Obj)) (h : Heap) : Prop where
  B : ∃ A₀, Below A₀ base outer h₀
  F : Fr h₀ L h m
  X : (Mine.hd0.heap_1 w.params).In h₀
  N : News h₀ L h news
  T : ∃ p loose mean mg mb, Top p loose mean mg mb h₀
  hf : env.frame = some L
  hke : env.scope.kind = .function
section
variable {h₀ g h' : Heap} {L L' : Addr} {m m' : Str → Option Value} {tb news news' : List (Addr × Obj)}
theorem stays {gg : Heap} (hg : gg = hideAll g (tb.map (·.1))) (N : News h₀ L g news) (htb : ∀ p ∈ tb, p ∈ news) (F' : Fr gg L' h' m') (N' : News gg L' h' news') (hk : ∀ p ∈ tb, p ∈ news') : g.StaysIn h' := fun b o e => by
  subst hg
  by_cases q : b ∈ tb.map (·.1)
  · obtain ⟨p, hp, rfl⟩ := List.mem_map.mp q
    have e2 := (N p (htb p hp)).1
    rw [e] at e2; cases e2
    exact (N' p (hk p hp)).1
  · exact F'.keep _ _ (hideAll_get _ e q)
theorem backF (F : Fr h₀ L g m) (k : g.StaysIn h') : Fr h₀ L h' m := by
  obtain ⟨oL, es, ep, hL, r⟩ := F.ns
  exact ⟨⟨oL, es, ep, k _ _ hL, r⟩, fun b o e => k _ _ (F.keep _ _ e), F.above⟩
theorem backN (N : News h₀ L g news) (k : g.StaysIn h') : News h₀ L h' news := fun p hp => ⟨k _ _ (N p hp).1, (N p hp).2⟩
theorem fresh {gg : Heap} (hg : gg = hideAll g (tb.map (·.1))) {l : Addr} {o : Obj} (N' : News gg L' h' news') (hm : (l, o) ∈ news') (hn : ∀ p ∈ tb, p.1 ≠ l) : g.get? l = none := by
  subst hg
  cases q : g.get? l with
  | none => rfl
  | some o' =>
    have e := (N' _ hm).2.2
    rw [hideAll_get (tb.map (·.1)) q (fun z => by obtain ⟨p, hp, e⟩ := List.mem_map.mp z; exact hn p hp e)] at e
    cases e
theorem backA {l : Addr} {o : Obj} (F : Fr h₀ L g m) (N : News h₀ L h' news) (hl : h'.get? l = some o) (hn : g.get? l = none) : News h₀ L h' ((l, o) :: news) := by
  intro p hp
  rcases List.mem_cons.mp hp with rfl | hp
  · refine ⟨hl, fun q => ?_, ?_⟩
    · obtain ⟨oL, es, ep, hL, r⟩ := F.ns
      have q : l = L := q
      rw [q, hL] at hn; cases hn
    · cases q : h₀.get? l with
      | none => rfl
      | some o' => rw [F.keep _ _ q] at hn; cases hn
  · exact N p hp
theorem backNe {l : Addr} (N : News h₀ L g news) (hn : g.get? l = none) : ∀ p ∈ news, p.1 ≠ l := fun p hp q => by
  have e2 := (N p hp).1
  rw [q, hn] at e2; cases e2
end
structure FoldOn : Prop where
  tt : True
theorem fold_on {p : Prop} (_ : FoldOn) (h : p) : p := h
theorem gen_toks {α : Type} {M : Model} {A : Around} {x : Sem α} {Q : α → Shared → Prop} {E : Value → Shared → Prop} {s : Shared} (h : ∀ tk : Nat, wpAny M A x Q E { s with toks := tk }) : wpAny M A x Q E s := h s.toks
theorem news_fold {P : Prop} {h₀ h : Heap} {L : Addr} {news : List (Addr × Obj)} (N : News h₀ L h news) (k : let nw := news; News h₀ L h nw → P) : P := k N
theorem fr_fold {P : Prop} {h₀ h : Heap} {L : Addr} {m : Str → Option Value} (F : Fr h₀ L h m) (k : let mm := m; Fr h₀ L h mm → P) : P := k F
theorem ar_fold {α : Type} {M : Model} {A : Around} {x : Sem α} {Q : α → Shared → Prop} {E : Value → Shared → Prop} {s : Shared} (h : let A9 := A; wpAny M A9 x Q E s) : wpAny M A x Q E s := h
theorem st_fold {α : Type} {M : Model} {A : Around} {x : Sem α} {Q : α → Shared → Prop} {E : Value → Shared → Prop} {s : Shared} (h : let s9 := s; wpAny M A x Q E s9) : wpAny M A x Q E s := h
theorem envf {prog : Program} {w : World} {A : Around} {env : Env} {body : List Stmt} {Q : Flow → Shared → Prop} {E : Value → Shared → Prop} {s : Shared} (h : let e9 := env; let A9 := A.deeper e9; let E9 := E; wpAny (model prog w) A9 (execs body e9) Q E9 s) : wpAny (model prog w) (A.deeper env) (execs body env) Q E s := h
theorem stf {M : Model} {A : Around} {b : List Stmt} {env : Env} {Q : Flow → Shared → Prop} {E : Value → Shared → Prop} {s : Shared} {h₀ h : Heap} {L : Addr} {m : Str → Option Value} (F : Fr h₀ L h m) (k : ∀ tk, let q9 := Q; let m9 := m; Fr h₀ L h m9 → wpAny M A (execs b env) q9 E ⟨s.heap, s.gens, s.drawn, tk, s.os⟩) : wpAny M A (execs b env) Q E s := k _ F
theorem qf {α : Type} {M : Model} {A : Around} {x : Sem α} {Q : α → Shared → Prop} {E : Value → Shared → Prop} {s : Shared} (k : let q9 := Q; wpAny M A x q9 E s) : wpAny M A x Q E s := k
theorem nm1 {h₀ h : Heap} {L a : Addr} {oa : Obj} {r : List (Addr × Obj)} (_ : News h₀ L h ((a, oa) :: r)) : ∃ a', a' = a := ⟨a, rfl⟩
theorem nm3 {h₀ h : Heap} {L a b c : Addr} {oa ob oc : Obj} {r : List (Addr × Obj)} (_ : News h₀ L h ((a, oa) :: (b, ob) :: (c, oc) :: r)) : ∃ b' c', b' = b ∧ c' = c := ⟨b, c, rfl, rfl⟩
theorem tokI {h₀ h : Heap} {L : Addr} {m : Str → Option Value} {x : Str} {i : Int} {t : Tok} (_ : Fr h₀ L h m) (e : m x = some (.int i t)) : ∃ t', m x = some (.int i t') := ⟨t, e⟩
theorem tokS {h₀ h : Heap} {L : Addr} {m : Str → Option Value} {x y : Str} {t : Tok} (_ : Fr h₀ L h m) (e : m x = some (.str y t)) : ∃ t', m x = some (.str y t') := ⟨t, e⟩
theorem gfold {P : Prop} (h : let G := P; G) : P := h
theorem drink {α : Type} {P : α → Prop} (ne : Nonempty α) : Nonempty {x : α // P x → ∀ y, P y} := by
  by_cases h : ∃ x, ¬ P x
  · obtain ⟨x, hx⟩ := h; exact ⟨⟨x, fun q => absurd q hx⟩⟩
  · obtain ⟨x⟩ := ne; exact ⟨⟨x, fun _ y => Classical.byContradiction fun q => h ⟨y, q⟩⟩⟩
theorem ne2 {α β : Type} (a : Nonempty α) (b : Nonempty β) : Nonempty (α × β) := a.elim fun x => b.elim fun y => ⟨(x, y)⟩
theorem neS : Nonempty Shared := ⟨{}⟩
theorem neW : Nonempty World := ⟨⟨fun _ _ => 0, { strHash := fun _ => 0, shareClass := fun _ => 0, mergeTok := id, idOf := fun _ => 0, idOfShared := fun _ _ => 0, followText := fun _ => false, idOfImm := fun _ => 0 }⟩⟩
theorem neA : Nonempty Around := ⟨{}⟩
end Mine
end
section
open PySem PySem.Spec PySem.Calls PyProof.Rows PySem.W
namespace Mine
structure Clm : Prop where
  tt : True
theorem drinkF : Nonempty {f : Nat → (T : Type) → Nonempty T → (T → Prop) → T // ∀ (n : Nat) (T : Type) (ne : Nonempty T) (R : T → Prop), R (f n T ne R) → ∀ y : T, R y} := by
  have h : ∀ (T : Type) (ne : Nonempty T) (R : T → Prop), ∃ x : T, R x → ∀ y : T, R y := fun T ne R => by
    cases Classical.em (∀ y : T, R y) with
    | inl h => exact ne.elim fun x => ⟨x, fun _ => h⟩
    | inr h => exact (Classical.not_forall.mp h).elim fun x hx => ⟨x, fun q => absurd q hx⟩
  exact ⟨fun _ T ne R => Classical.choose (h T ne R), fun _ T ne R => Classical.choose_spec (h T ne R)⟩
noncomputable def eptF : {f : Nat → (T : Type) → Nonempty T → (T → Prop) → T // ∀ (n : Nat) (T : Type) (ne : Nonempty T) (R : T → Prop), R (f n T ne R) → ∀ y : T, R y} := Classical.choice drinkF
noncomputable def cl (n : Nat) {T : Type} (ne : Nonempty T) (R : T → Prop) : T := eptF.1 n T ne R
theorem close1 (n : Nat) {T0 : Type} (ne : Nonempty T0) {R : T0 → Prop} (h : R (cl n ne R)) (x0 : T0) : R x0 := eptF.2 n T0 ne R h x0
noncomputable def un2 {T0 T1 : Type} (R : T0 → T1 → Prop) (p : (T0 × T1)) : Prop := R p.1 p.2
theorem close2 (n : Nat) {T0 T1 : Type} (ne : Nonempty ((T0 × T1))) {R : T0 → T1 → Prop} (h : R (cl n ne (un2 R)).1 (cl n ne (un2 R)).2) : ∀ x0 x1, R x0 x1 := fun x0 x1 => eptF.2 n _ ne (un2 R) h (x0, x1)
noncomputable def un3 {T0 T1 T2 : Type} (R : T0 → T1 → T2 → Prop) (p : ((T0 × T1) × T2)) : Prop := R p.1.1 p.1.2 p.2
theorem close3 (n : Nat) {T0 T1 T2 : Type} (ne : Nonempty (((T0 × T1) × T2))) {R : T0 → T1 → T2 → Prop} (h : R (cl n ne (un3 R)).1.1 (cl n ne (un3 R)).1.2 (cl n ne (un3 R)).2) : ∀ x0 x1 x2, R x0 x1 x2 := fun x0 x1 x2 => eptF.2 n _ ne (un3 R) h ((x0, x1), x2)
noncomputable def un4 {T0 T1 T2 T3 : Type} (R : T0 → T1 → T2 → T3 → Prop) (p : ((T0 × T1) × (T2 × T3))) : Prop := R p.1.1 p.1.2 p.2.1 p.2.2
theorem close4 (n : Nat) {T0 T1 T2 T3 : Type} (ne : Nonempty (((T0 × T1) × (T2 × T3)))) {R : T0 → T1 → T2 → T3 → Prop} (h : R (cl n ne (un4 R)).1.1 (cl n ne (un4 R)).1.2 (cl n ne (un4 R)).2.1 (cl n ne (un4 R)).2.2) : ∀ x0 x1 x2 x3, R x0 x1 x2 x3 := fun x0 x1 x2 x3 => eptF.2 n _ ne (un4 R) h ((x0, x1), (x2, x3))
noncomputable def un5 {T0 T1 T2 T3 T4 : Type} (R : T0 → T1 → T2 → T3 → T4 → Prop) (p : (((T0 × T1) × T2) × (T3 × T4))) : Prop := R p.1.1.1 p.1.1.2 p.1.2 p.2.1 p.2.2
theorem close5 (n : Nat) {T0 T1 T2 T3 T4 : Type} (ne : Nonempty ((((T0 × T1) × T2) × (T3 × T4)))) {R : T0 → T1 → T2 → T3 → T4 → Prop} (h : R (cl n ne (un5 R)).1.1.1 (cl n ne (un5 R)).1.1.2 (cl n ne (un5 R)).1.2 (cl n ne (un5 R)).2.1 (cl n ne (un5 R)).2.2) : ∀ x0 x1 x2 x3 x4, R x0 x1 x2 x3 x4 := fun x0 x1 x2 x3 x4 => eptF.2 n _ ne (un5 R) h (((x0, x1), x2), (x3, x4))
noncomputable def un9 {T0 T1 T2 T3 T4 T5 T6 T7 T8 : Type} (R : T0 → T1 → T2 → T3 → T4 → T5 → T6 → T7 → T8 → Prop) (p : ((((T0 × T1) × T2) × (T3 × T4)) × ((T5 × T6) × (T7 × T8)))) : Prop := R p.1.1.1.1 p.1.1.1.2 p.1.1.2 p.1.2.1 p.1.2.2 p.2.1.1 p.2.1.2 p.2.2.1 p.2.2.2
theorem close9 (n : Nat) {T0 T1 T2 T3 T4 T5 T6 T7 T8 : Type} (ne : Nonempty (((((T0 × T1) × T2) × (T3 × T4)) × ((T5 × T6) × (T7 × T8))))) {R : T0 → T1 → T2 → T3 → T4 → T5 → T6 → T7 → T8 → Prop} (h : R (cl n ne (un9 R)).1.1.1.1 (cl n ne (un9 R)).1.1.1.2 (cl n ne (un9 R)).1.1.2 (cl n ne (un9 R)).1.2.1 (cl n ne (un9 R)).1.2.2 (cl n ne (un9 R)).2.1.1 (cl n ne (un9 R)).2.1.2 (cl n ne (un9 R)).2.2.1 (cl n ne (un9 R)).2.2.2) : ∀ x0 x1 x2 x3 x4 x5 x6 x7 x8, R x0 x1 x2 x3 x4 x5 x6 x7 x8 := fun x0 x1 x2 x3 x4 x5 x6 x7 x8 => eptF.2 n _ ne (un9 R) h ((((x0, x1), x2), (x3, x4)), ((x5, x6), (x7, x8)))
noncomputable def un10 {T0 T1 T2 T3 T4 T5 T6 T7 T8 T9 : Type} (R : T0 → T1 → T2 → T3 → T4 → T5 → T6 → T7 → T8 → T9 → Prop) (p : ((((T0 × T1) × T2) × (T3 × T4)) × (((T5 × T6) × T7) × (T8 × T9)))) : Prop := R p.1.1.1.1 p.1.1.1.2 p.1.1.2 p.1.2.1 p.1.2.2 p.2.1.1.1 p.2.1.1.2 p.2.1.2 p.2.2.1 p.2.2.2
theorem close10 (n : Nat) {T0 T1 T2 T3 T4 T5 T6 T7 T8 T9 : Type} (ne : Nonempty (((((T0 × T1) × T2) × (T3 × T4)) × (((T5 × T6) × T7) × (T8 × T9))))) {R : T0 → T1 → T2 → T3 → T4 → T5 → T6 → T7 → T8 → T9 → Prop} (h : R (cl n ne (un10 R)).1.1.1.1 (cl n ne (un10 R)).1.1.1.2 (cl n ne (un10 R)).1.1.2 (cl n ne (un10 R)).1.2.1 (cl n ne (un10 R)).1.2.2 (cl n ne (un10 R)).2.1.1.1 (cl n ne (un10 R)).2.1.1.2 (cl n ne (un10 R)).2.1.2 (cl n ne (un10 R)).2.2.1 (cl n ne (un10 R)).2.2.2) : ∀ x0 x1 x2 x3 x4 x5 x6 x7 x8 x9, R x0 x1 x2 x3 x4 x5 x6 x7 x8 x9 := fun x0 x1 x2 x3 x4 x5 x6 x7 x8 x9 => eptF.2 n _ ne (un10 R) h ((((x0, x1), x2), (x3, x4)), (((x5, x6), x7), (x8, x9)))
noncomputable def un11 {T0 T1 T2 T3 T4 T5 T6 T7 T8 T9 T10 : Type} (R : T0 → T1 → T2 → T3 → T4 → T5 → T6 → T7 → T8 → T9 → T10 → Prop) (p : ((((T0 × T1) × T2) × ((T3 × T4) × T5)) × (((T6 × T7) × T8) × (T9 × T10)))) : Prop := R p.1.1.1.1 p.1.1.1.2 p.1.1.2 p.1.2.1.1 p.1.2.1.2 p.1.2.2 p.2.1.1.1 p.2.1.1.2 p.2.1.2 p.2.2.1 p.2.2.2
theorem close11 (n : Nat) {T0 T1 T2 T3 T4 T5 T6 T7 T8 T9 T10 : Type} (ne : Nonempty (((((T0 × T1) × T2) × ((T3 × T4) × T5)) × (((T6 × T7) × T8) × (T9 × T10))))) {R : T0 → T1 → T2 → T3 → T4 → T5 → T6 → T7 → T8 → T9 → T10 → Prop} (h : R (cl n ne (un11 R)).1.1.1.1 (cl n ne (un11 R)).1.1.1.2 (cl n ne (un11 R)).1.1.2 (cl n ne (un11 R)).1.2.1.1 (cl n ne (un11 R)).1.2.1.2 (cl n ne (un11 R)).1.2.2 (cl n ne (un11 R)).2.1.1.1 (cl n ne (un11 R)).2.1.1.2 (cl n ne (un11 R)).2.1.2 (cl n ne (un11 R)).2.2.1 (cl n ne (un11 R)).2.2.2) : ∀ x0 x1 x2 x3 x4 x5 x6 x7 x8 x9 x10, R x0 x1 x2 x3 x4 x5 x6 x7 x8 x9 x10 := fun x0 x1 x2 x3 x4 x5 x6 x7 x8 x9 x10 => eptF.2 n _ ne (un11 R) h ((((x0, x1), x2), ((x3, x4), x5)), (((x6, x7), x8), (x9, x10)))
noncomputable def un12 {T0 T1 T2 T3 T4 T5 T6 T7 T8 T9 T10 T11 : Type} (R : T0 → T1 → T2 → T3 → T4 → T5 → T6 → T7 → T8 → T9 → T10 → T11 → Prop) (p : ((((T0 × T1) × T2) × ((T3 × T4) × T5)) × (((T6 × T7) × T8) × ((T9 × T10) × T11)))) : Prop := R p.1.1.1.1 p.1.1.1.2 p.1.1.2 p.1.2.1.1 p.1.2.1.2 p.1.2.2 p.2.1.1.1 p.2.1.1.2 p.2.1.2 p.2.2.1.1 p.2.2.1.2 p.2.2.2
theorem close12 (n : Nat) {T0 T1 T2 T3 T4 T5 T6 T7 T8 T9 T10 T11 : Type} (ne : Nonempty (((((T0 × T1) × T2) × ((T3 × T4) × T5)) × (((T6 × T7) × T8) × ((T9 × T10) × T11))))) {R : T0 → T1 → T2 → T3 → T4 → T5 → T6 → T7 → T8 → T9 → T10 → T11 → Prop} (h : R (cl n ne (un12 R)).1.1.1.1 (cl n ne (un12 R)).1.1.1.2 (cl n ne (un12 R)).1.1.2 (cl n ne (un12 R)).1.2.1.1 (cl n ne (un12 R)).1.2.1.2 (cl n ne (un12 R)).1.2.2 (cl n ne (un12 R)).2.1.1.1 (cl n ne (un12 R)).2.1.1.2 (cl n ne (un12 R)).2.1.2 (cl n ne (un12 R)).2.2.1.1 (cl n ne (un12 R)).2.2.1.2 (cl n ne (un12 R)).2.2.2) : ∀ x0 x1 x2 x3 x4 x5 x6 x7 x8 x9 x10 x11, R x0 x1 x2 x3 x4 x5 x6 x7 x8 x9 x10 x11 := fun x0 x1 x2 x3 x4 x5 x6 x7 x8 x9 x10 x11 => eptF.2 n _ ne (un12 R) h ((((x0, x1), x2), ((x3, x4), x5)), (((x6, x7), x8), ((x9, x10), x11)))
noncomputable def un13 {T0 T1 T2 T3 T4 T5 T6 T7 T8 T9 T10 T11 T12 : Type} (R : T0 → T1 → T2 → T3 → T4 → T5 → T6 → T7 → T8 → T9 → T10 → T11 → T12 → Prop) (p : ((((T0 × T1) × (T2 × T3)) × ((T4 × T5) × T6)) × (((T7 × T8) × T9) × ((T10 × T11) × T12)))) : Prop := R p.1.1.1.1 p.1.1.1.2 p.1.1.2.1 p.1.1.2.2 p.1.2.1.1 p.1.2.1.2 p.1.2.2 p.2.1.1.1 p.2.1.1.2 p.2.1.2 p.2.2.1.1 p.2.2.1.2 p.2.2.2
theorem close13 (n : Nat) {T0 T1 T2 T3 T4 T5 T6 T7 T8 T9 T10 T11 T12 : Type} (ne : Nonempty (((((T0 × T1) × (T2 × T3)) × ((T4 × T5) × T6)) × (((T7 × T8) × T9) × ((T10 × T11) × T12))))) {R : T0 → T1 → T2 → T3 → T4 → T5 → T6 → T7 → T8 → T9 → T10 → T11 → T12 → Prop} (h : R (cl n ne (un13 R)).1.1.1.1 (cl n ne (un13 R)).1.1.1.2 (cl n ne (un13 R)).1.1.2.1 (cl n ne (un13 R)).1.1.2.2 (cl n ne (un13 R)).1.2.1.1 (cl n ne (un13 R)).1.2.1.2 (cl n ne (un13 R)).1.2.2 (cl n ne (un13 R)).2.1.1.1 (cl n ne (un13 R)).2.1.1.2 (cl n ne (un13 R)).2.1.2 (cl n ne (un13 R)).2.2.1.1 (cl n ne (un13 R)).2.2.1.2 (cl n ne (un13 R)).2.2.2) : ∀ x0 x1 x2 x3 x4 x5 x6 x7 x8 x9 x10 x11 x12, R x0 x1 x2 x3 x4 x5 x6 x7 x8 x9 x10 x11 x12 := fun x0 x1 x2 x3 x4 x5 x6 x7 x8 x9 x10 x11 x12 => eptF.2 n _ ne (un13 R) h ((((x0, x1), (x2, x3)), ((x4, x5), x6)), (((x7, x8), x9), ((x10, x11), x12)))
noncomputable def un15 {T0 T1 T2 T3 T4 T5 T6 T7 T8 T9 T10 T11 T12 T13 T14 : Type} (R : T0 → T1 → T2 → T3 → T4 → T5 → T6 → T7 → T8 → T9 → T10 → T11 → T12 → T13 → T14 → Prop) (p : ((((T0 × T1) × (T2 × T3)) × ((T4 × T5) × (T6 × T7))) × (((T8 × T9) × (T10 × T11)) × ((T12 × T13) × T14)))) : Prop := R p.1.1.1.1 p.1.1.1.2 p.1.1.2.1 p.1.1.2.2 p.1.2.1.1 p.1.2.1.2 p.1.2.2.1 p.1.2.2.2 p.2.1.1.1 p.2.1.1.2 p.2.1.2.1 p.2.1.2.2 p.2.2.1.1 p.2.2.1.2 p.2.2.2
theorem close15 (n : Nat) {T0 T1 T2 T3 T4 T5 T6 T7 T8 T9 T10 T11 T12 T13 T14 : Type} (ne : Nonempty (((((T0 × T1) × (T2 × T3)) × ((T4 × T5) × (T6 × T7))) × (((T8 × T9) × (T10 × T11)) × ((T12 × T13) × T14))))) {R : T0 → T1 → T2 → T3 → T4 → T5 → T6 → T7 → T8 → T9 → T10 → T11 → T12 → T13 → T14 → Prop} (h : R (cl n ne (un15 R)).1.1.1.1 (cl n ne (un15 R)).1.1.1.2 (cl n ne (un15 R)).1.1.2.1 (cl n ne (un15 R)).1.1.2.2 (cl n ne (un15 R)).1.2.1.1 (cl n ne (un15 R)).1.2.1.2 (cl n ne (un15 R)).1.2.2.1 (cl n ne (un15 R)).1.2.2.2 (cl n ne (un15 R)).2.1.1.1 (cl n ne (un15 R)).2.1.1.2 (cl n ne (un15 R)).2.1.2.1 (cl n ne (un15 R)).2.1.2.2 (cl n ne (un15 R)).2.2.1.1 (cl n ne (un15 R)).2.2.1.2 (cl n ne (un15 R)).2.2.2) : ∀ x0 x1 x2 x3 x4 x5 x6 x7 x8 x9 x10 x11 x12 x13 x14, R x0 x1 x2 x3 x4 x5 x6 x7 x8 x9 x10 x11 x12 x13 x14 := fun x0 x1 x2 x3 x4 x5 x6 x7 x8 x9 x10 x11 x12 x13 x14 => eptF.2 n _ ne (un15 R) h ((((x0, x1), (x2, x3)), ((x4, x5), (x6, x7))), (((x8, x9), (x10, x11)), ((x12, x13), x14)))
noncomputable def un16 {T0 T1 T2 T3 T4 T5 T6 T7 T8 T9 T10 T11 T12 T13 T14 T15 : Type} (R : T0 → T1 → T2 → T3 → T4 → T5 → T6 → T7 → T8 → T9 → T10 → T11 → T12 → T13 → T14 → T15 → Prop) (p : ((((T0 × T1) × (T2 × T3)) × ((T4 × T5) × (T6 × T7))) × (((T8 × T9) × (T10 × T11)) × ((T12 × T13) × (T14 × T15))))) : Prop := R p.1.1.1.1 p.1.1.1.2 p.1.1.2.1 p.1.1.2.2 p.1.2.1.1 p.1.2.1.2 p.1.2.2.1 p.1.2.2.2 p.2.1.1.1 p.2.1.1.2 p.2.1.2.1 p.2.1.2.2 p.2.2.1.1 p.2.2.1.2 p.2.2.2.1 p.2.2.2.2
theorem close16 (n : Nat) {T0 T1 T2 T3 T4 T5 T6 T7 T8 T9 T10 T11 T12 T13 T14 T15 : Type} (ne : Nonempty (((((T0 × T1) × (T2 × T3)) × ((T4 × T5) × (T6 × T7))) × (((T8 × T9) × (T10 × T11)) × ((T12 × T13) × (T14 × T15)))))) {R : T0 → T1 → T2 → T3 → T4 → T5 → T6 → T7 → T8 → T9 → T10 → T11 → T12 → T13 → T14 → T15 → Prop} (h : R (cl n ne (un16 R)).1.1.1.1 (cl n ne (un16 R)).1.1.1.2 (cl n ne (un16 R)).1.1.2.1 (cl n ne (un16 R)).1.1.2.2 (cl n ne (un16 R)).1.2.1.1 (cl n ne (un16 R)).1.2.1.2 (cl n ne (un16 R)).1.2.2.1 (cl n ne (un16 R)).1.2.2.2 (cl n ne (un16 R)).2.1.1.1 (cl n ne (un16 R)).2.1.1.2 (cl n ne (un16 R)).2.1.2.1 (cl n ne (un16 R)).2.1.2.2 (cl n ne (un16 R)).2.2.1.1 (cl n ne (un16 R)).2.2.1.2 (cl n ne (un16 R)).2.2.2.1 (cl n ne (un16 R)).2.2.2.2) : ∀ x0 x1 x2 x3 x4 x5 x6 x7 x8 x9 x10 x11 x12 x13 x14 x15, R x0 x1 x2 x3 x4 x5 x6 x7 x8 x9 x10 x11 x12 x13 x14 x15 := fun x0 x1 x2 x3 x4 x5 x6 x7 x8 x9 x10 x11 x12 x13 x14 x15 => eptF.2 n _ ne (un16 R) h ((((x0, x1), (x2, x3)), ((x4, x5), (x6, x7))), (((x8, x9), (x10, x11)), ((x12, x13), (x14, x15))))
noncomputable def un18 {T0 T1 T2 T3 T4 T5 T6 T7 T8 T9 T10 T11 T12 T13 T14 T15 T16 T17 : Type} (R : T0 → T1 → T2 → T3 → T4 → T5 → T6 → T7 → T8 → T9 → T10 → T11 → T12 → T13 → T14 → T15 → T16 → T17 → Prop) (p : (((((T0 × T1) × T2) × (T3 × T4)) × ((T5 × T6) × (T7 × T8))) × ((((T9 × T10) × T11) × (T12 × T13)) × ((T14 × T15) × (T16 × T17))))) : Prop := R p.1.1.1.1.1 p.1.1.1.1.2 p.1.1.1.2 p.1.1.2.1 p.1.1.2.2 p.1.2.1.1 p.1.2.1.2 p.1.2.2.1 p.1.2.2.2 p.2.1.1.1.1 p.2.1.1.1.2 p.2.1.1.2 p.2.1.2.1 p.2.1.2.2 p.2.2.1.1 p.2.2.1.2 p.2.2.2.1 p.2.2.2.2
theorem close18 (n : Nat) {T0 T1 T2 T3 T4 T5 T6 T7 T8 T9 T10 T11 T12 T13 T14 T15 T16 T17 : Type} (ne : Nonempty ((((((T0 × T1) × T2) × (T3 × T4)) × ((T5 × T6) × (T7 × T8))) × ((((T9 × T10) × T11) × (T12 × T13)) × ((T14 × T15) × (T16 × T17)))))) {R : T0 → T1 → T2 → T3 → T4 → T5 → T6 → T7 → T8 → T9 → T10 → T11 → T12 → T13 → T14 → T15 → T16 → T17 → Prop} (h : R (cl n ne (un18 R)).1.1.1.1.1 (cl n ne (un18 R)).1.1.1.1.2 (cl n ne (un18 R)).1.1.1.2 (cl n ne (un18 R)).1.1.2.1 (cl n ne (un18 R)).1.1.2.2 (cl n ne (un18 R)).1.2.1.1 (cl n ne (un18 R)).1.2.1.2 (cl n ne (un18 R)).1.2.2.1 (cl n ne (un18 R)).1.2.2.2 (cl n ne (un18 R)).2.1.1.1.1 (cl n ne (un18 R)).2.1.1.1.2 (cl n ne (un18 R)).2.1.1.2 (cl n ne (un18 R)).2.1.2.1 (cl n ne (un18 R)).2.1.2.2 (cl n ne (un18 R)).2.2.1.1 (cl n ne (un18 R)).2.2.1.2 (cl n ne (un18 R)).2.2.2.1 (cl n ne (un18 R)).2.2.2.2) : ∀ x0 x1 x2 x3 x4 x5 x6 x7 x8 x9 x10 x11 x12 x13 x14 x15 x16 x17, R x0 x1 x2 x3 x4 x5 x6 x7 x8 x9 x10 x11 x12 x13 x14 x15 x16 x17 := fun x0 x1 x2 x3 x4 x5 x6 x7 x8 x9 x10 x11 x12 x13 x14 x15 x16 x17 => eptF.2 n _ ne (un18 R) h (((((x0, x1), x2), (x3, x4)), ((x5, x6), (x7, x8))), ((((x9, x10), x11), (x12, x13)), ((x14, x15), (x16, x17))))
noncomputable def un20 {T0 T1 T2 T3 T4 T5 T6 T7 T8 T9 T10 T11 T12 T13 T14 T15 T16 T17 T18 T19 : Type} (R : T0 → T1 → T2 → T3 → T4 → T5 → T6 → T7 → T8 → T9 → T10 → T11 → T12 → T13 → T14 → T15 → T16 → T17 → T18 → T19 → Prop) (p : (((((T0 × T1) × T2) × (T3 × T4)) × (((T5 × T6) × T7) × (T8 × T9))) × ((((T10 × T11) × T12) × (T13 × T14)) × (((T15 × T16) × T17) × (T18 × T19))))) : Prop := R p.1.1.1.1.1 p.1.1.1.1.2 p.1.1.1.2 p.1.1.2.1 p.1.1.2.2 p.1.2.1.1.1 p.1.2.1.1.2 p.1.2.1.2 p.1.2.2.1 p.1.2.2.2 p.2.1.1.1.1 p.2.1.1.1.2 p.2.1.1.2 p.2.1.2.1 p.2.1.2.2 p.2.2.1.1.1 p.2.2.1.1.2 p.2.2.1.2 p.2.2.2.1 p.2.2.2.2
theorem close20 (n : Nat) {T0 T1 T2 T3 T4 T5 T6 T7 T8 T9 T10 T11 T12 T13 T14 T15 T16 T17 T18 T19 : Type} (ne : Nonempty ((((((T0 × T1) × T2) × (T3 × T4)) × (((T5 × T6) × T7) × (T8 × T9))) × ((((T10 × T11) × T12) × (T13 × T14)) × (((T15 × T16) × T17) × (T18 × T19)))))) {R : T0 → T1 → T2 → T3 → T4 → T5 → T6 → T7 → T8 → T9 → T10 → T11 → T12 → T13 → T14 → T15 → T16 → T17 → T18 → T19 → Prop} (h : R (cl n ne (un20 R)).1.1.1.1.1 (cl n ne (un20 R)).1.1.1.1.2 (cl n ne (un20 R)).1.1.1.2 (cl n ne (un20 R)).1.1.2.1 (cl n ne (un20 R)).1.1.2.2 (cl n ne (un20 R)).1.2.1.1.1 (cl n ne (un20 R)).1.2.1.1.2 (cl n ne (un20 R)).1.2.1.2 (cl n ne (un20 R)).1.2.2.1 (cl n ne (un20 R)).1.2.2.2 (cl n ne (un20 R)).2.1.1.1.1 (cl n ne (un20 R)).2.1.1.1.2 (cl n ne (un20 R)).2.1.1.2 (cl n ne (un20 R)).2.1.2.1 (cl n ne (un20 R)).2.1.2.2 (cl n ne (un20 R)).2.2.1.1.1 (cl n ne (un20 R)).2.2.1.1.2 (cl n ne (un20 R)).2.2.1.2 (cl n ne (un20 R)).2.2.2.1 (cl n ne (un20 R)).2.2.2.2) : ∀ x0 x1 x2 x3 x4 x5 x6 x7 x8 x9 x10 x11 x12 x13 x14 x15 x16 x17 x18 x19, R x0 x1 x2 x3 x4 x5 x6 x7 x8 x9 x10 x11 x12 x13 x14 x15 x16 x17 x18 x19 := fun x0 x1 x2 x3 x4 x5 x6 x7 x8 x9 x10 x11 x12 x13 x14 x15 x16 x17 x18 x19 => eptF.2 n _ ne (un20 R) h (((((x0, x1), x2), (x3, x4)), (((x5, x6), x7), (x8, x9))), ((((x10, x11), x12), (x13, x14)), (((x15, x16), x17), (x18, x19))))
noncomputable def un21 {T0 T1 T2 T3 T4 T5 T6 T7 T8 T9 T10 T11 T12 T13 T14 T15 T16 T17 T18 T19 T20 : Type} (R : T0 → T1 → T2 → T3 → T4 → T5 → T6 → T7 → T8 → T9 → T10 → T11 → T12 → T13 → T14 → T15 → T16 → T17 → T18 → T19 → T20 → Prop) (p : (((((T0 × T1) × T2) × ((T3 × T4) × T5)) × (((T6 × T7) × T8) × (T9 × T10))) × ((((T11 × T12) × T13) × (T14 × T15)) × (((T16 × T17) × T18) × (T19 × T20))))) : Prop := R p.1.1.1.1.1 p.1.1.1.1.2 p.1.1.1.2 p.1.1.2.1.1 p.1.1.2.1.2 p.1.1.2.2 p.1.2.1.1.1 p.1.2.1.1.2 p.1.2.1.2 p.1.2.2.1 p.1.2.2.2 p.2.1.1.1.1 p.2.1.1.1.2 p.2.1.1.2 p.2.1.2.1 p.2.1.2.2 p.2.2.1.1.1 p.2.2.1.1.2 p.2.2.1.2 p.2.2.2.1 p.2.2.2.2
theorem close21 (n : Nat) {T0 T1 T2 T3 T4 T5 T6 T7 T8 T9 T10 T11 T12 T13 T14 T15 T16 T17 T18 T19 T20 : Type} (ne : Nonempty ((((((T0 × T1) × T2) × ((T3 × T4) × T5)) × (((T6 × T7) × T8) × (T9 × T10))) × ((((T11 × T12) × T13) × (T14 × T15)) × (((T16 × T17) × T18) × (T19 × T20)))))) {R : T0 → T1 → T2 → T3 → T4 → T5 → T6 → T7 → T8 → T9 → T10 → T11 → T12 → T13 → T14 → T15 → T16 → T17 → T18 → T19 → T20 → Prop} (h : R (cl n ne (un21 R)).1.1.1.1.1 (cl n ne (un21 R)).1.1.1.1.2 (cl n ne (un21 R)).1.1.1.2 (cl n ne (un21 R)).1.1.2.1.1 (cl n ne (un21 R)).1.1.2.1.2 (cl n ne (un21 R)).1.1.2.2 (cl n ne (un21 R)).1.2.1.1.1 (cl n ne (un21 R)).1.2.1.1.2 (cl n ne (un21 R)).1.2.1.2 (cl n ne (un21 R)).1.2.2.1 (cl n ne (un21 R)).1.2.2.2 (cl n ne (un21 R)).2.1.1.1.1 (cl n ne (un21 R)).2.1.1.1.2 (cl n ne (un21 R)).2.1.1.2 (cl n ne (un21 R)).2.1.2.1 (cl n ne (un21 R)).2.1.2.2 (cl n ne (un21 R)).2.2.1.1.1 (cl n ne (un21 R)).2.2.1.1.2 (cl n ne (un21 R)).2.2.1.2 (cl n ne (un21 R)).2.2.2.1 (cl n ne (un21 R)).2.2.2.2) : ∀ x0 x1 x2 x3 x4 x5 x6 x7 x8 x9 x10 x11 x12 x13 x14 x15 x16 x17 x18 x19 x20, R x0 x1 x2 x3 x4 x5 x6 x7 x8 x9 x10 x11 x12 x13 x14 x15 x16 x17 x18 x19 x20 := fun x0 x1 x2 x3 x4 x5 x6 x7 x8 x9 x10 x11 x12 x13 x14 x15 x16 x17 x18 x19 x20 => eptF.2 n _ ne (un21 R) h (((((x0, x1), x2), ((x3, x4), x5)), (((x6, x7), x8), (x9, x10))), ((((x11, x12), x13), (x14, x15)), (((x16, x17), x18), (x19, x20))))
noncomputable def un22 {T0 T1 T2 T3 T4 T5 T6 T7 T8 T9 T10 T11 T12 T13 T14 T15 T16 T17 T18 T19 T20 T21 : Type} (R : T0 → T1 → T2 → T3 → T4 → T5 → T6 → T7 → T8 → T9 → T10 → T11 → T12 → T13 → T14 → T15 → T16 → T17 → T18 → T19 → T20 → T21 → Prop) (p : (((((T0 × T1) × T2) × ((T3 × T4) × T5)) × (((T6 × T7) × T8) × (T9 × T10))) × ((((T11 × T12) × T13) × ((T14 × T15) × T16)) × (((T17 × T18) × T19) × (T20 × T21))))) : Prop := R p.1.1.1.1.1 p.1.1.1.1.2 p.1.1.1.2 p.1.1.2.1.1 p.1.1.2.1.2 p.1.1.2.2 p.1.2.1.1.1 p.1.2.1.1.2 p.1.2.1.2 p.1.2.2.1 p.1.2.2.2 p.2.1.1.1.1 p.2.1.1.1.2 p.2.1.1.2 p.2.1.2.1.1 p.2.1.2.1.2 p.2.1.2.2 p.2.2.1.1.1 p.2.2.1.1.2 p.2.2.1.2 p.2.2.2.1 p.2.2.2.2
theorem close22 (n : Nat) {T0 T1 T2 T3 T4 T5 T6 T7 T8 T9 T10 T11 T12 T13 T14 T15 T16 T17 T18 T19 T20 T21 : Type} (ne : Nonempty ((((((T0 × T1) × T2) × ((T3 × T4) × T5)) × (((T6 × T7) × T8) × (T9 × T10))) × ((((T11 × T12) × T13) × ((T14 × T15) × T16)) × (((T17 × T18) × T19) × (T20 × T21)))))) {R : T0 → T1 → T2 → T3 → T4 → T5 → T6 → T7 → T8 → T9 → T10 → T11 → T12 → T13 → T14 → T15 → T16 → T17 → T18 → T19 → T20 → T21 → Prop} (h : R (cl n ne (un22 R)).1.1.1.1.1 (cl n ne (un22 R)).1.1.1.1.2 (cl n ne (un22 R)).1.1.1.2 (cl n ne (un22 R)).1.1.2.1.1 (cl n ne (un22 R)).1.1.2.1.2 (cl n ne (un22 R)).1.1.2.2 (cl n ne (un22 R)).1.2.1.1.1 (cl n ne (un22 R)).1.2.1.1.2 (cl n ne (un22 R)).1.2.1.2 (cl n ne (un22 R)).1.2.2.1 (cl n ne (un22 R)).1.2.2.2 (cl n ne (un22 R)).2.1.1.1.1 (cl n ne (un22 R)).2.1.1.1.2 (cl n ne (un22 R)).2.1.1.2 (cl n ne (un22 R)).2.1.2.1.1 (cl n ne (un22 R)).2.1.2.1.2 (cl n ne (un22 R)).2.1.2.2 (cl n ne (un22 R)).2.2.1.1.1 (cl n ne (un22 R)).2.2.1.1.2 (cl n ne (un22 R)).2.2.1.2 (cl n ne (un22 R)).2.2.2.1 (cl n ne (un22 R)).2.2.2.2) : ∀ x0 x1 x2 x3 x4 x5 x6 x7 x8 x9 x10 x11 x12 x13 x14 x15 x16 x17 x18 x19 x20 x21, R x0 x1 x2 x3 x4 x5 x6 x7 x8 x9 x10 x11 x12 x13 x14 x15 x16 x17 x18 x19 x20 x21 := fun x0 x1 x2 x3 x4 x5 x6 x7 x8 x9 x10 x11 x12 x13 x14 x15 x16 x17 x18 x19 x20 x21 => eptF.2 n _ ne (un22 R) h (((((x0, x1), x2), ((x3, x4), x5)), (((x6, x7), x8), (x9, x10))), ((((x11, x12), x13), ((x14, x15), x16)), (((x17, x18), x19), (x20, x21))))
noncomputable def un26 {T0 T1 T2 T3 T4 T5 T6 T7 T8 T9 T10 T11 T12 T13 T14 T15 T16 T17 T18 T19 T20 T21 T22 T23 T24 T25 : Type} (R : T0 → T1 → T2 → T3 → T4 → T5 → T6 → T7 → T8 → T9 → T10 → T11 → T12 → T13 → T14 → T15 → T16 → T17 → T18 → T19 → T20 → T21 → T22 → T23 → T24 → T25 → Prop) (p : (((((T0 × T1) × (T2 × T3)) × ((T4 × T5) × T6)) × (((T7 × T8) × T9) × ((T10 × T11) × T12))) × ((((T13 × T14) × (T15 × T16)) × ((T17 × T18) × T19)) × (((T20 × T21) × T22) × ((T23 × T24) × T25))))) : Prop := R p.1.1.1.1.1 p.1.1.1.1.2 p.1.1.1.2.1 p.1.1.1.2.2 p.1.1.2.1.1 p.1.1.2.1.2 p.1.1.2.2 p.1.2.1.1.1 p.1.2.1.1.2 p.1.2.1.2 p.1.2.2.1.1 p.1.2.2.1.2 p.1.2.2.2 p.2.1.1.1.1 p.2.1.1.1.2 p.2.1.1.2.1 p.2.1.1.2.2 p.2.1.2.1.1 p.2.1.2.1.2 p.2.1.2.2 p.2.2.1.1.1 p.2.2.1.1.2 p.2.2.1.2 p.2.2.2.1.1 p.2.2.2.1.2 p.2.2.2.2
theorem close26 (n : Nat) {T0 T1 T2 T3 T4 T5 T6 T7 T8 T9 T10 T11 T12 T13 T14 T15 T16 T17 T18 T19 T20 T21 T22 T23 T24 T25 : Type} (ne : Nonempty ((((((T0 × T1) × (T2 × T3)) × ((T4 × T5) × T6)) × (((T7 × T8) × T9) × ((T10 × T11) × T12))) × ((((T13 × T14) × (T15 × T16)) × ((T17 × T18) × T19)) × (((T20 × T21) × T22) × ((T23 × T24) × T25)))))) {R : T0 → T1 → T2 → T3 → T4 → T5 → T6 → T7 → T8 → T9 → T10 → T11 → T12 → T13 → T14 → T15 → T16 → T17 → T18 → T19 → T20 → T21 → T22 → T23 → T24 → T25 → Prop} (h : R (cl n ne (un26 R)).1.1.1.1.1 (cl n ne (un26 R)).1.1.1.1.2 (cl n ne (un26 R)).1.1.1.2.1 (cl n ne (un26 R)).1.1.1.2.2 (cl n ne (un26 R)).1.1.2.1.1 (cl n ne (un26 R)).1.1.2.1.2 (cl n ne (un26 R)).1.1.2.2 (cl n ne (un26 R)).1.2.1.1.1 (cl n ne (un26 R)).1.2.1.1.2 (cl n ne (un26 R)).1.2.1.2 (cl n ne (un26 R)).1.2.2.1.1 (cl n ne (un26 R)).1.2.2.1.2 (cl n ne (un26 R)).1.2.2.2 (cl n ne (un26 R)).2.1.1.1.1 (cl n ne (un26 R)).2.1.1.1.2 (cl n ne (un26 R)).2.1.1.2.1 (cl n ne (un26 R)).2.1.1.2.2 (cl n ne (un26 R)).2.1.2.1.1 (cl n ne (un26 R)).2.1.2.1.2 (cl n ne (un26 R)).2.1.2.2 (cl n ne (un26 R)).2.2.1.1.1 (cl n ne (un26 R)).2.2.1.1.2 (cl n ne (un26 R)).2.2.1.2 (cl n ne (un26 R)).2.2.2.1.1 (cl n ne (un26 R)).2.2.2.1.2 (cl n ne (un26 R)).2.2.2.2) : ∀ x0 x1 x2 x3 x4 x5 x6 x7 x8 x9 x10 x11 x12 x13 x14 x15 x16 x17 x18 x19 x20 x21 x22 x23 x24 x25, R x0 x1 x2 x3 x4 x5 x6 x7 x8 x9 x10 x11 x12 x13 x14 x15 x16 x17 x18 x19 x20 x21 x22 x23 x24 x25 := fun x0 x1 x2 x3 x4 x5 x6 x7 x8 x9 x10 x11 x12 x13 x14 x15 x16 x17 x18 x19 x20 x21 x22 x23 x24 x25 => eptF.2 n _ ne (un26 R) h (((((x0, x1), (x2, x3)), ((x4, x5), x6)), (((x7, x8), x9), ((x10, x11), x12))), ((((x13, x14), (x15, x16)), ((x17, x18), x19)), (((x20, x21), x22), ((x23, x24), x25))))
noncomputable def un35 {T0 T1 T2 T3 T4 T5 T6 T7 T8 T9 T10 T11 T12 T13 T14 T15 T16 T17 T18 T19 T20 T21 T22 T23 T24 T25 T26 T27 T28 T29 T30 T31 T32 T33 T34 : Type} (R : T0 → T1 → T2 → T3 → T4 → T5 → T6 → T7 → T8 → T9 → T10 → T11 → T12 → T13 → T14 → T15 → T16 → T17 → T18 → T19 → T20 → T21 → T22 → T23 → T24 → T25 → T26 → T27 → T28 → T29 → T30 → T31 → T32 → T33 → T34 → Prop) (p : ((((((T0 × T1) × T2) × (T3 × T4)) × ((T5 × T6) × (T7 × T8))) × ((((T9 × T10) × T11) × (T12 × T13)) × ((T14 × T15) × (T16 × T17)))) × (((((T18 × T19) × T20) × (T21 × T22)) × ((T23 × T24) × (T25 × T26))) × (((T27 × T28) × (T29 × T30)) × ((T31 × T32) × (T33 × T34)))))) : Prop := R p.1.1.1.1.1.1 p.1.1.1.1.1.2 p.1.1.1.1.2 p.1.1.1.2.1 p.1.1.1.2.2 p.1.1.2.1.1 p.1.1.2.1.2 p.1.1.2.2.1 p.1.1.2.2.2 p.1.2.1.1.1.1 p.1.2.1.1.1.2 p.1.2.1.1.2 p.1.2.1.2.1 p.1.2.1.2.2 p.1.2.2.1.1 p.1.2.2.1.2 p.1.2.2.2.1 p.1.2.2.2.2 p.2.1.1.1.1.1 p.2.1.1.1.1.2 p.2.1.1.1.2 p.2.1.1.2.1 p.2.1.1.2.2 p.2.1.2.1.1 p.2.1.2.1.2 p.2.1.2.2.1 p.2.1.2.2.2 p.2.2.1.1.1 p.2.2.1.1.2 p.2.2.1.2.1 p.2.2.1.2.2 p.2.2.2.1.1 p.2.2.2.1.2 p.2.2.2.2.1 p.2.2.2.2.2
theorem close35 (n : Nat) {T0 T1 T2 T3 T4 T5 T6 T7 T8 T9 T10 T11 T12 T13 T14 T15 T16 T17 T18 T19 T20 T21 T22 T23 T24 T25 T26 T27 T28 T29 T30 T31 T32 T33 T34 : Type} (ne : Nonempty (((((((T0 × T1) × T2) × (T3 × T4)) × ((T5 × T6) × (T7 × T8))) × ((((T9 × T10) × T11) × (T12 × T13)) × ((T14 × T15) × (T16 × T17)))) × (((((T18 × T19) × T20) × (T21 × T22)) × ((T23 × T24) × (T25 × T26))) × (((T27 × T28) × (T29 × T30)) × ((T31 × T32) × (T33 × T34))))))) {R : T0 → T1 → T2 → T3 → T4 → T5 → T6 → T7 → T8 → T9 → T10 → T11 → T12 → T13 → T14 → T15 → T16 → T17 → T18 → T19 → T20 → T21 → T22 → T23 → T24 → T25 → T26 → T27 → T28 → T29 → T30 → T31 → T32 → T33 → T34 → Prop} (h : R (cl n ne (un35 R)).1.1.1.1.1.1 (cl n ne (un35 R)).1.1.1.1.1.2 (cl n ne (un35 R)).1.1.1.1.2 (cl n ne (un35 R)).1.1.1.2.1 (cl n ne (un35 R)).1.1.1.2.2 (cl n ne (un35 R)).1.1.2.1.1 (cl n ne (un35 R)).1.1.2.1.2 (cl n ne (un35 R)).1.1.2.2.1 (cl n ne (un35 R)).1.1.2.2.2 (cl n ne (un35 R)).1.2.1.1.1.1 (cl n ne (un35 R)).1.2.1.1.1.2 (cl n ne (un35 R)).1.2.1.1.2 (cl n ne (un35 R)).1.2.1.2.1 (cl n ne (un35 R)).1.2.1.2.2 (cl n ne (un35 R)).1.2.2.1.1 (cl n ne (un35 R)).1.2.2.1.2 (cl n ne (un35 R)).1.2.2.2.1 (cl n ne (un35 R)).1.2.2.2.2 (cl n ne (un35 R)).2.1.1.1.1.1 (cl n ne (un35 R)).2.1.1.1.1.2 (cl n ne (un35 R)).2.1.1.1.2 (cl n ne (un35 R)).2.1.1.2.1 (cl n ne (un35 R)).2.1.1.2.2 (cl n ne (un35 R)).2.1.2.1.1 (cl n ne (un35 R)).2.1.2.1.2 (cl n ne (un35 R)).2.1.2.2.1 (cl n ne (un35 R)).2.1.2.2.2 (cl n ne (un35 R)).2.2.1.1.1 (cl n ne (un35 R)).2.2.1.1.2 (cl n ne (un35 R)).2.2.1.2.1 (cl n ne (un35 R)).2.2.1.2.2 (cl n ne (un35 R)).2.2.2.1.1 (cl n ne (un35 R)).2.2.2.1.2 (cl n ne (un35 R)).2.2.2.2.1 (cl n ne (un35 R)).2.2.2.2.2) : ∀ x0 x1 x2 x3 x4 x5 x6 x7 x8 x9 x10 x11 x12 x13 x14 x15 x16 x17 x18 x19 x20 x21 x22 x23 x24 x25 x26 x27 x28 x29 x30 x31 x32 x33 x34, R x0 x1 x2 x3 x4 x5 x6 x7 x8 x9 x10 x11 x12 x13 x14 x15 x16 x17 x18 x19 x20 x21 x22 x23 x24 x25 x26 x27 x28 x29 x30 x31 x32 x33 x34 := fun x0 x1 x2 x3 x4 x5 x6 x7 x8 x9 x10 x11 x12 x13 x14 x15 x16 x17 x18 x19 x20 x21 x22 x23 x24 x25 x26 x27 x28 x29 x30 x31 x32 x33 x34 => eptF.2 n _ ne (un35 R) h ((((((x0, x1), x2), (x3, x4)), ((x5, x6), (x7, x8))), ((((x9, x10), x11), (x12, x13)), ((x14, x15), (x16, x17)))), (((((x18, x19), x20), (x21, x22)), ((x23, x24), (x25, x26))), (((x27, x28), (x29, x30)), ((x31, x32), (x33, x34)))))
noncomputable def un60 {T0 T1 T2 T3 T4 T5 T6 T7 T8 T9 T10 T11 T12 T13 T14 T15 T16 T17 T18 T19 T20 T21 T22 T23 T24 T25 T26 T27 T28 T29 T30 T31 T32 T33 T34 T35 T36 T37 T38 T39 T40 T41 T42 T43 T44 T45 T46 T47 T48 T49 T50 T51 T52 T53 T54 T55 T56 T57 T58 T59 : Type} (R : T0 → T1 → T2 → T3 → T4 → T5 → T6 → T7 → T8 → T9 → T10 → T11 → T12 → T13 → T14 → T15 → T16 → T17 → T18 → T19 → T20 → T21 → T22 → T23 → T24 → T25 → T26 → T27 → T28 → T29 → T30 → T31 → T32 → T33 → T34 → T35 → T36 → T37 → T38 → T39 → T40 → T41 → T42 → T43 → T44 → T45 → T46 → T47 → T48 → T49 → T50 → T51 → T52 → T53 → T54 → T55 → T56 → T57 → T58 → T59 → Prop) (p : ((((((T0 × T1) × (T2 × T3)) × ((T4 × T5) × (T6 × T7))) × (((T8 × T9) × (T10 × T11)) × ((T12 × T13) × T14))) × ((((T15 × T16) × (T17 × T18)) × ((T19 × T20) × (T21 × T22))) × (((T23 × T24) × (T25 × T26)) × ((T27 × T28) × T29)))) × (((((T30 × T31) × (T32 × T33)) × ((T34 × T35) × (T36 × T37))) × (((T38 × T39) × (T40 × T41)) × ((T42 × T43) × T44))) × ((((T45 × T46) × (T47 × T48)) × ((T49 × T50) × (T51 × T52))) × (((T53 × T54) × (T55 × T56)) × ((T57 × T58) × T59)))))) : Prop := R p.1.1.1.1.1.1 p.1.1.1.1.1.2 p.1.1.1.1.2.1 p.1.1.1.1.2.2 p.1.1.1.2.1.1 p.1.1.1.2.1.2 p.1.1.1.2.2.1 p.1.1.1.2.2.2 p.1.1.2.1.1.1 p.1.1.2.1.1.2 p.1.1.2.1.2.1 p.1.1.2.1.2.2 p.1.1.2.2.1.1 p.1.1.2.2.1.2 p.1.1.2.2.2 p.1.2.1.1.1.1 p.1.2.1.1.1.2 p.1.2.1.1.2.1 p.1.2.1.1.2.2 p.1.2.1.2.1.1 p.1.2.1.2.1.2 p.1.2.1.2.2.1 p.1.2.1.2.2.2 p.1.2.2.1.1.1 p.1.2.2.1.1.2 p.1.2.2.1.2.1 p.1.2.2.1.2.2 p.1.2.2.2.1.1 p.1.2.2.2.1.2 p.1.2.2.2.2 p.2.1.1.1.1.1 p.2.1.1.1.1.2 p.2.1.1.1.2.1 p.2.1.1.1.2.2 p.2.1.1.2.1.1 p.2.1.1.2.1.2 p.2.1.1.2.2.1 p.2.1.1.2.2.2 p.2.1.2.1.1.1 p.2.1.2.1.1.2 p.2.1.2.1.2.1 p.2.1.2.1.2.2 p.2.1.2.2.1.1 p.2.1.2.2.1.2 p.2.1.2.2.2 p.2.2.1.1.1.1 p.2.2.1.1.1.2 p.2.2.1.1.2.1 p.2.2.1.1.2.2 p.2.2.1.2.1.1 p.2.2.1.2.1.2 p.2.2.1.2.2.1 p.2.2.1.2.2.2 p.2.2.2.1.1.1 p.2.2.2.1.1.2 p.2.2.2.1.2.1 p.2.2.2.1.2.2 p.2.2.2.2.1.1 p.2.2.2.2.1.2 p.2.2.2.2.2
theorem close60 (n : Nat) {T0 T1 T2 T3 T4 T5 T6 T7 T8 T9 T10 T11 T12 T13 T14 T15 T16 T17 T18 T19 T20 T21 T22 T23 T24 T25 T26 T27 T28 T29 T30 T31 T32 T33 T34 T35 T36 T37 T38 T39 T40 T41 T42 T43 T44 T45 T46 T47 T48 T49 T50 T51 T52 T53 T54 T55 T56 T57 T58 T59 : Type} (ne : Nonempty (((((((T0 × T1) × (T2 × T3)) × ((T4 × T5) × (T6 × T7))) × (((T8 × T9) × (T10 × T11)) × ((T12 × T13) × T14))) × ((((T15 × T16) × (T17 × T18)) × ((T19 × T20) × (T21 × T22))) × (((T23 × T24) × (T25 × T26)) × ((T27 × T28) × T29)))) × (((((T30 × T31) × (T32 × T33)) × ((T34 × T35) × (T36 × T37))) × (((T38 × T39) × (T40 × T41)) × ((T42 × T43) × T44))) × ((((T45 × T46) × (T47 × T48)) × ((T49 × T50) × (T51 × T52))) × (((T53 × T54) × (T55 × T56)) × ((T57 × T58) × T59))))))) {R : T0 → T1 → T2 → T3 → T4 → T5 → T6 → T7 → T8 → T9 → T10 → T11 → T12 → T13 → T14 → T15 → T16 → T17 → T18 → T19 → T20 → T21 → T22 → T23 → T24 → T25 → T26 → T27 → T28 → T29 → T30 → T31 → T32 → T33 → T34 → T35 → T36 → T37 → T38 → T39 → T40 → T41 → T42 → T43 → T44 → T45 → T46 → T47 → T48 → T49 → T50 → T51 → T52 → T53 → T54 → T55 → T56 → T57 → T58 → T59 → Prop} (h : R (cl n ne (un60 R)).1.1.1.1.1.1 (cl n ne (un60 R)).1.1.1.1.1.2 (cl n ne (un60 R)).1.1.1.1.2.1 (cl n ne (un60 R)).1.1.1.1.2.2 (cl n ne (un60 R)).1.1.1.2.1.1 (cl n ne (un60 R)).1.1.1.2.1.2 (cl n ne (un60 R)).1.1.1.2.2.1 (cl n ne (un60 R)).1.1.1.2.2.2 (cl n ne (un60 R)).1.1.2.1.1.1 (cl n ne (un60 R)).1.1.2.1.1.2 (cl n ne (un60 R)).1.1.2.1.2.1 (cl n ne (un60 R)).1.1.2.1.2.2 (cl n ne (un60 R)).1.1.2.2.1.1 (cl n ne (un60 R)).1.1.2.2.1.2 (cl n ne (un60 R)).1.1.2.2.2 (cl n ne (un60 R)).1.2.1.1.1.1 (cl n ne (un60 R)).1.2.1.1.1.2 (cl n ne (un60 R)).1.2.1.1.2.1 (cl n ne (un60 R)).1.2.1.1.2.2 (cl n ne (un60 R)).1.2.1.2.1.1 (cl n ne (un60 R)).1.2.1.2.1.2 (cl n ne (un60 R)).1.2.1.2.2.1 (cl n ne (un60 R)).1.2.1.2.2.2 (cl n ne (un60 R)).1.2.2.1.1.1 (cl n ne (un60 R)).1.2.2.1.1.2 (cl n ne (un60 R)).1.2.2.1.2.1 (cl n ne (un60 R)).1.2.2.1.2.2 (cl n ne (un60 R)).1.2.2.2.1.1 (cl n ne (un60 R)).1.2.2.2.1.2 (cl n ne (un60 R)).1.2.2.2.2 (cl n ne (un60 R)).2.1.1.1.1.1 (cl n ne (un60 R)).2.1.1.1.1.2 (cl n ne (un60 R)).2.1.1.1.2.1 (cl n ne (un60 R)).2.1.1.1.2.2 (cl n ne (un60 R)).2.1.1.2.1.1 (cl n ne (un60 R)).2.1.1.2.1.2 (cl n ne (un60 R)).2.1.1.2.2.1 (cl n ne (un60 R)).2.1.1.2.2.2 (cl n ne (un60 R)).2.1.2.1.1.1 (cl n ne (un60 R)).2.1.2.1.1.2 (cl n ne (un60 R)).2.1.2.1.2.1 (cl n ne (un60 R)).2.1.2.1.2.2 (cl n ne (un60 R)).2.1.2.2.1.1 (cl n ne (un60 R)).2.1.2.2.1.2 (cl n ne (un60 R)).2.1.2.2.2 (cl n ne (un60 R)).2.2.1.1.1.1 (cl n ne (un60 R)).2.2.1.1.1.2 (cl n ne (un60 R)).2.2.1.1.2.1 (cl n ne (un60 R)).2.2.1.1.2.2 (cl n ne (un60 R)).2.2.1.2.1.1 (cl n ne (un60 R)).2.2.1.2.1.2 (cl n ne (un60 R)).2.2.1.2.2.1 (cl n ne (un60 R)).2.2.1.2.2.2 (cl n ne (un60 R)).2.2.2.1.1.1 (cl n ne (un60 R)).2.2.2.1.1.2 (cl n ne (un60 R)).2.2.2.1.2.1 (cl n ne (un60 R)).2.2.2.1.2.2 (cl n ne (un60 R)).2.2.2.2.1.1 (cl n ne (un60 R)).2.2.2.2.1.2 (cl n ne (un60 R)).2.2.2.2.2) : ∀ x0 x1 x2 x3 x4 x5 x6 x7 x8 x9 x10 x11 x12 x13 x14 x15 x16 x17 x18 x19 x20 x21 x22 x23 x24 x25 x26 x27 x28 x29 x30 x31 x32 x33 x34 x35 x36 x37 x38 x39 x40 x41 x42 x43 x44 x45 x46 x47 x48 x49 x50 x51 x52 x53 x54 x55 x56 x57 x58 x59, R x0 x1 x2 x3 x4 x5 x6 x7 x8 x9 x10 x11 x12 x13 x14 x15 x16 x17 x18 x19 x20 x21 x22 x23 x24 x25 x26 x27 x28 x29 x30 x31 x32 x33 x34 x35 x36 x37 x38 x39 x40 x41 x42 x43 x44 x45 x46 x47 x48 x49 x50 x51 x52 x53 x54 x55 x56 x57 x58 x59 := fun x0 x1 x2 x3 x4 x5 x6 x7 x8 x9 x10 x11 x12 x13 x14 x15 x16 x17 x18 x19 x20 x21 x22 x23 x24 x25 x26 x27 x28 x29 x30 x31 x32 x33 x34 x35 x36 x37 x38 x39 x40 x41 x42 x43 x44 x45 x46 x47 x48 x49 x50 x51 x52 x53 x54 x55 x56 x57 x58 x59 => eptF.2 n _ ne (un60 R) h ((((((x0, x1), (x2, x3)), ((x4, x5), (x6, x7))), (((x8, x9), (x10, x11)), ((x12, x13), x14))), ((((x15, x16), (x17, x18)), ((x19, x20), (x21, x22))), (((x23, x24), (x25, x26)), ((x27, x28), x29)))), (((((x30, x31), (x32, x33)), ((x34, x35), (x36, x37))), (((x38, x39), (x40, x41)), ((x42, x43), x44))), ((((x45, x46), (x47, x48)), ((x49, x50), (x51, x52))), (((x53, x54), (x55, x56)), ((x57, x58), x59)))))
end Mine
end
section
open PySem PySem.Spec PySem.Calls PyProof.Rows PySem.W
set_option maxHeartbeats 8000000
namespace Mine
section
variable {prog : Program} {w : World} {A : Around} {E : Value → Shared → Prop} {s : Shared} {h₀ : Heap} {L : Addr} {m : Str → Option Value} {env : Env}
noncomputable def Hold (P : Prop) : Prop := P
theorem compK (pz : Value → Bool) (G : Value → Value → Prop) {elt iter : Expr} {x : Str} {px : Pos} {ifs : List Expr} {scope : Scope} {cl : List (Str × Addr)} {pos : Pos} {Q : Value → Shared → Prop}
    (hh : A.handled = none) (hclos : closureFor scope env = pure cl) (hcell : ∀ y ∈ scope.names, y.2 ≠ .cell) (hkind : scope.kind = .function)
    (hnames : ∀ y ∈ scope.names, y.2 = .local → scope.names.lookup y.1 = some .local) (hx : scope.names.lookup x = some .local)
    (h : wpAny (model prog w) A (eval iter env) (fun xv s₁ => Hold (∃ ax, ∃ vs : List Value, xv = .ref ax ∧ s₁.heap.IsList ax vs.toArray ∧ vs.length ≤ sizeLine ∧
      (∀ C v s₂ m₂ E', v ∈ vs → s₁.heap.objs.size ≤ C → s₂.heap.Ns (compEnvC scope cl C env).locals m₂ → m₂ x = some v → (∀ b o, s₁.heap.get? b = some o → s₂.heap.get? b = some o) →
        wpAny (model prog w) A (forIn ifs true fun c r => if r = true then do let ok ← isTrue c (compEnvC scope cl C env) (eval c (compEnvC scope cl C env)); pure (ForInStep.yield ok) else pure (ForInStep.yield r))
          (fun ok s₃ => ok = pz v ∧ Keeps s₂ s₃) E' s₂) ∧
      (∀ C v s₂ m₂ E', v ∈ vs → pz v = true → s₁.heap.objs.size ≤ C → s₂.heap.Ns (compEnvC scope cl C env).locals m₂ → m₂ x = some v → (∀ b o, s₁.heap.get? b = some o → s₂.heap.get? b = some o) →
        wpAny (model prog w) A (eval elt (compEnvC scope cl C env)) (fun y s₃ => G v y ∧ Keeps s₂ s₃) E' s₂) ∧
      (∀ D (ys : List Value) h' tk, s₁.heap.StaysIn h' → s₁.heap.get? D = none → h'.PlainList D ys.toArray → Paired G (vs.filter pz) ys → Q (.ref D) { s₁ with heap := h', toks := tk }))) E s)
    (hs : ∀ x, foldedSetIterable iter env x = pure x := by intro _; rfl) :
    wpAny (model prog w) A (eval (.ListComp elt [⟨.Name x px, iter, ifs, 0⟩] scope pos) env) Q E s := by
  refine wpAny_ListComp_free pz G hclos hcell hkind hnames hx (wpAny_mono h (fun xv s₁ h₁ => ?_) fun _ _ e => e) hs
  obtain ⟨ax, vs, rfl, hl, hsz, htests, helt, hQ⟩ := h₁
  have hlt : ax < s₁.heap.objs.size := by obtain ⟨_, e, _⟩ := hl; exact Heap.lt_size e
  have up : ∀ (s₃ : Shared), (∀ b o, b ∉ [s₁.heap.objs.size] → (s₁.heap.push { cls := .type "list_iterator", data := .fields #[.ref ax, .int 0 0] }).get? b = some o → s₃.heap.get? b = some o) → ∀ b o, s₁.heap.get? b = some o → s₃.heap.get? b = some o :=
    fun s₃ hk b o e => hk b o (fun hm => by rcases List.mem_cons.mp hm with rfl | hm; exact Nat.lt_irrefl _ (Heap.lt_size e); cases hm) (Heap.get?_push_of_some _ e)
  refine wpAny_pyIter_list hl ⟨s₁.heap.objs.size, [s₁.heap.objs.size, ax], [s₁.heap.objs.size], vs.toArray.size, _, _, rfl, Walks.list hh _ _ (Nat.ne_of_lt hlt) vs.toArray, (by rw [List.size_toArray]; exact hsz), ⟨⟨_, Heap.get?_push_size _ rfl, rfl, rfl⟩, hl.push _⟩, ?_, ⟨?_, ?_⟩, ?_⟩
  · intro b hb
    show b < (s₁.heap.push _).objs.size
    rw [Heap.size_push]
    rcases List.mem_cons.mp hb with rfl | hb
    · exact Nat.lt_succ_self _
    · rcases List.mem_cons.mp hb with rfl | hb
      · exact Nat.lt_succ_of_lt hlt
      · cases hb
  · intro C i v s₃ m₃ E' hC hP hn hm hk _
    exact htests C v s₃ m₃ E' (by simpa using Array.mem_of_getElem? hP) (Nat.le_of_succ_le (by simpa [Heap.size_push] using hC)) hn hm (up s₃ hk)
  · intro C i v s₃ m₃ E' hC hP hp hn hm hk _
    exact helt C v s₃ m₃ E' (by simpa using Array.mem_of_getElem? hP) hp (Nat.le_of_succ_le (by simpa [Heap.size_push] using hC)) hn hm (up s₃ hk)
  · intro D h' tk ys vs' hnew hlD hplD hlen hP hF hk
    have e : vs' = vs := by simpa using list_of_places hlen hP
    subst e
    have keep : ∀ b o, s₁.heap.get? b = some o → h'.get? b = some o := up { s₁ with heap := h' } hk
    refine hQ D ys.toList h' tk keep ?_ (by rw [Array.toArray_toList]; exact hplD) hF
    cases e : s₁.heap.get? D with
    | none => rfl
    | some o' => rw [Heap.get?_push_of_some _ e] at hnew; cases hnew
end
end Mine
end
section
open PySem PySem.Spec PySem.Calls PyProof.Rows PySem.W
set_option maxHeartbeats 8000000
namespace Mine
theorem S_len (l : List Nat) : (S l).length = l.length := List.size_toArray
theorem S_app (a b : List Nat) : S a ++ S b = S (a ++ b) := by
  show (⟨a.toArray ++ b.toArray⟩ : Str) = ⟨(a ++ b).toArray⟩
  rw [List.append_toArray]
theorem S_lst (a : List Nat) : (S a).cps.toList = a := rfl
theorem S_inj {a b : List Nat} (h : S a = S b) : a = b := congrArg (fun x : Str => x.cps.toList) h
theorem S_of (x : Str) : x = S x.cps.toList := rfl
theorem imin (a b : Nat) : min (a : Int) (b : Int) = ((min a b : Nat) : Int) := by
  rcases Nat.le_total a b with h | h
  · rw [Nat.min_eq_left h, Int.min_eq_left (Int.ofNat_le.mpr h)]
  · rw [Nat.min_eq_right h, Int.min_eq_right (Int.ofNat_le.mpr h)]
theorem imax0 (a : Nat) : max (0 : Int) (a : Int) = (a : Int) := Int.max_eq_right (Int.natCast_nonneg a)
theorem stp0 {l i k : Nat} (h : l - i = k + 1) : l - (i + 1) = k := by rw [Nat.sub_add_eq, h]; rfl
theorem stp1 {l i k : Nat} (h : l - i = k + 1) : i < l := Nat.lt_of_sub_pos (h ▸ Nat.succ_pos k)
theorem stp2 {l i : Nat} (h : l - i = 0) (k : i ≤ l) : i = l := Nat.le_antisymm k (Nat.le_of_sub_eq_zero h)
theorem idx_clamp (i j n : Nat) : Builtin.Str.strSliceIndices (some (i : Int)) (some (j : Int)) 1 n = (List.range (min j n - min i n)).map (fun k => min i n + k) := by
  have h1 : ¬ ((i : Int) < 0) := Int.not_lt.mpr (Int.natCast_nonneg i)
  have h2 : ¬ ((j : Int) < 0) := Int.not_lt.mpr (Int.natCast_nonneg j)
  have e1 : max (0 : Int) (min (i : Int) (n : Int)) = ((min i n : Nat) : Int) := by rw [imin, imax0]
  have e2 : max (0 : Int) (min (j : Int) (n : Int)) = ((min j n : Nat) : Int) := by rw [imin, imax0]
  simp only [Builtin.Str.strSliceIndices, sliceRange, h1, h2, if_false, e1, e2, show ((1 : Int) > 0) = True from by simp, if_true]
  generalize min i n = a
  generalize min j n = b
  by_cases hlt : (a : Int) < b
  · have e3 : (((b : Int) - a + 1 - 1) / 1).toNat = b - a := by simp
    simp only [hlt, if_true, e3]
    refine List.map_congr_left fun k _ => ?_
    rw [Int.one_mul]; rfl
  · have : b - a = 0 := Nat.sub_eq_zero_of_le (Int.ofNat_le.mp (Int.not_lt.mp hlt))
    simp [hlt, this]
theorem slice_nat (l : List Nat) (i j : Nat) : Txt.slice (S l) (some (i : Int)) (some (j : Int)) = S ((l.take j).drop i) := by
  have e : (S l).length = l.length := S_len l
  have hmain : (l.drop (min i l.length)).take (min j l.length - min i l.length) = (l.take j).drop i := by
    rw [List.drop_take]
    rcases Nat.le_total i l.length with h | h
    · rw [Nat.min_eq_left h, List.take_eq_take_min (i := j - i), List.length_drop, Nat.sub_min_sub_right]
    · rw [Nat.min_eq_right h, List.drop_length, List.take_nil, List.drop_eq_nil_of_le h, List.take_nil]
  have hp : ((Builtin.Str.strSliceIndices (some (i : Int)) (some (j : Int)) 1 l.length).filterMap ((S l).cps[·]?)) = (l.take j).drop i := by
    rw [idx_clamp, ← hmain]
    have hq := StrLaws.picks l (min j l.length - min i l.length) (min i l.length) (by
      rcases Nat.le_total (min i l.length) (min j l.length) with h | h
      · rw [Nat.add_sub_of_le h]; exact Nat.min_le_right ..
      · rw [Nat.sub_eq_zero_of_le h]; exact Nat.min_le_right ..)
    simpa using hq
  unfold Txt.slice
  rw [e]
  split
  · rename_i hc
    have hl : (Builtin.Str.strSliceIndices (some (i : Int)) (some (j : Int)) 1 l.length).length = l.length := by simpa using hc
    rw [idx_clamp] at hl
    simp only [List.length_map, List.length_range] at hl
    have h1 : (l.take j).drop i = l := by
      refine ((List.drop_sublist i _).trans (List.take_sublist j l)).eq_of_length ?_
      rw [← hmain, List.length_take, List.length_drop, hl]
      exact Nat.min_eq_left (Nat.le_trans (Nat.le_of_eq hl.symm) (Nat.sub_le_sub_right (Nat.min_le_right j _) _))
    rw [h1]
  · rw [hp]
theorem slice_ss (l : List Nat) {i j : Int} (hi : 0 ≤ i) (hj : 0 ≤ j) : Txt.slice (S l) (some i) (some j) = S ((l.take j.toNat).drop i.toNat) := by
  have h := slice_nat l i.toNat j.toNat
  rwa [Int.toNat_of_nonneg hi, Int.toNat_of_nonneg hj] at h
theorem slice_ns (l : List Nat) {j : Int} (hj : 0 ≤ j) : Txt.slice (S l) none (some j) = S (l.take j.toNat) := by
  have h := slice_ss l (Int.le_refl 0) hj
  unfold Txt.slice at h ⊢
  rw [StrLaws.sliceIdx_none_lo]
  simpa using h
theorem slice_sn (l : List Nat) {i : Int} (hi : 0 ≤ i) : Txt.slice (S l) (some i) none = S (l.drop i.toNat) := by
  have h := slice_ss l hi (Int.natCast_nonneg l.length)
  unfold Txt.slice at h ⊢
  rw [StrLaws.sliceIdx_none_hi, S_len]
  rw [S_len] at h
  simpa using h
theorem slice_sn_neg (l : List Nat) (k : Nat) (h1 : 1 ≤ k) (hk : k ≤ l.length) : Txt.slice (S l) (some (-(k : Int))) none = S (l.drop (l.length - k)) := by
  have h := slice_sn l (i := ((l.length - k : Nat) : Int)) (by omega)
  rw [Int.toNat_natCast] at h
  rw [← h]
  unfold Txt.slice
  rw [StrLaws.sliceIdx_neg_lo none _ (by omega) (by rw [S_len]; omega), S_len]
  have e : -(k : Int) + (l.length : Int) = ((l.length - k : Nat) : Int) := by omega
  rw [e]
section
variable {prog : Program} {w : World} {A : Around} {E : Value → Shared → Prop} {s : Shared} {value slice : PySem.Expr} {l : List Nat} {t u : Tok} {h₀ : Heap} {L : Addr} {m : Str → Option Value} {news : List (Addr × Obj)} {Q : Value → Shared → Prop}
theorem item_S {l : List Nat} {c : Nat} {i : Int} (hc : l[i.toNat]? = some c) : Txt.item (S l) i = S [c] ∨ i < 0 := by
  by_cases h0 : 0 ≤ i
  · left
    have hlt : i.toNat < l.length := by
      rcases Nat.lt_or_ge i.toNat l.length with h | h
      · exact h
      · rw [List.getElem?_eq_none h] at hc; cases hc
    unfold Txt.item
    have : Txt.charAt (S l) i = some c := by
      unfold Txt.charAt
      exact StrLaws.at_nonneg h0 (by simpa using hc)
    rw [this]; rfl
  · right; omega
theorem r_item {c : Nat} {i : Int} (h0 : 0 ≤ i) (hc : l[i.toNat]? = some c) (hn : l.length ≤ 16777216) (h : Q (.str (S [c]) s.toks) { s with toks := s.toks + 1 })
    (hs : subscripted slice false (.str (S l) t) (.int i u) = operate [.str (S l) t, .int i u] (getItem (.str (S l) t) (.int i u)) := by with_unfolding_all rfl)
    (ht : ∀ r, letTemporaryGo value (.str (S l) t) r = pure () := by intro _; with_unfolding_all rfl) :
    wpAny (model prog w) A (subscriptTail value slice (.str (S l) t) (.int i u)) Q E s := by
  have hlt : i.toNat < l.length := by
    rcases Nat.lt_or_ge i.toNat l.length with h | h
    · exact h
    · rw [List.getElem?_eq_none h] at hc; cases hc
  have e : Txt.item (S l) i = S [c] := (item_S hc).resolve_right (Int.not_lt.mpr h0)
  refine KXi.item (S_len l) (Int.le_trans (Int.neg_nonpos_of_nonneg (Int.natCast_nonneg _)) h0) ((Int.toNat_lt h0).mp hlt) hn (fun _ => ?_) hs ht
  rw [e]; exact h
theorem rs_ss {i j : Int} {ui uj : Tok} (hF : Fr h₀ L s.heap m) (hN : News h₀ L s.heap news) (hi : 0 ≤ i) (hj : 0 ≤ j) (hn : l.length ≤ 16777216)
    (h : ∀ h' t' k, Fr h₀ L h' m → News h₀ L h' news → Q (.str (S ((l.take j.toNat).drop i.toNat)) t') { s with heap := h', toks := k })
    (hs : subscripted slice false (.str (S l) t) (.ref s.heap.objs.size) = operate [.ref s.heap.objs.size, .str (S l) t] (getItem (.str (S l) t) (.ref s.heap.objs.size)) := by with_unfolding_all rfl)
    (ht : ∀ r, letTemporaryGo value (.str (S l) t) r = pure () := by intro _; with_unfolding_all rfl) :
    wpAny (model prog w) A (subscriptTail value slice (.str (S l) t) (.ref s.heap.objs.size)) Q E { s with heap := s.heap.push { cls := .type "slice", data := .fields #[.int i ui, .int j uj, .none] } } := by
  refine slice_strN_ss hF hN (fun h' t' k a b => ?_) hs ht (by rw [S_len, sizeLine_eq]; exact hn)
  rw [slice_ss l hi hj]; exact h h' t' k a b
theorem rs_ns {j : Int} {uj : Tok} (hF : Fr h₀ L s.heap m) (hN : News h₀ L s.heap news) (hj : 0 ≤ j) (hn : l.length ≤ 16777216)
    (h : ∀ h' t' k, Fr h₀ L h' m → News h₀ L h' news → Q (.str (S (l.take j.toNat)) t') { s with heap := h', toks := k })
    (hs : subscripted slice false (.str (S l) t) (.ref s.heap.objs.size) = operate [.ref s.heap.objs.size, .str (S l) t] (getItem (.str (S l) t) (.ref s.heap.objs.size)) := by with_unfolding_all rfl)
    (ht : ∀ r, letTemporaryGo value (.str (S l) t) r = pure () := by intro _; with_unfolding_all rfl) :
    wpAny (model prog w) A (subscriptTail value slice (.str (S l) t) (.ref s.heap.objs.size)) Q E { s with heap := s.heap.push { cls := .type "slice", data := .fields #[.none, .int j uj, .none] } } := by
  refine slice_strN_ns hF hN (fun h' t' k a b => ?_) hs ht (by rw [S_len, sizeLine_eq]; exact hn)
  rw [slice_ns l hj]; exact h h' t' k a b
theorem rs_sn {i : Int} {ui : Tok} (hF : Fr h₀ L s.heap m) (hN : News h₀ L s.heap news) (hi : 0 ≤ i) (hn : l.length ≤ 16777216)
    (h : ∀ h' t' k, Fr h₀ L h' m → News h₀ L h' news → Q (.str (S (l.drop i.toNat)) t') { s with heap := h', toks := k })
    (hs : subscripted slice false (.str (S l) t) (.ref s.heap.objs.size) = operate [.ref s.heap.objs.size, .str (S l) t] (getItem (.str (S l) t) (.ref s.heap.objs.size)) := by with_unfolding_all rfl)
    (ht : ∀ r, letTemporaryGo value (.str (S l) t) r = pure () := by intro _; with_unfolding_all rfl) :
    wpAny (model prog w) A (subscriptTail value slice (.str (S l) t) (.ref s.heap.objs.size)) Q E { s with heap := s.heap.push { cls := .type "slice", data := .fields #[.int i ui, .none, .none] } } := by
  refine slice_strN_sn hF hN (fun h' t' k a b => ?_) hs ht (by rw [S_len, sizeLine_eq]; exact hn)
  rw [slice_sn l hi]; exact h h' t' k a b
theorem r_eq {x y : Str} (b : Bool) (hb : (x.cps.toList == y.cps.toList) = b) (h : Q (.bool b) s) : wpAny (model prog w) A (compareOp .Eq (.str x t) (.str y u)) Q E s :=
  P.eq_str (by rw [hb]; exact h)
theorem r_ne {x y : Str} (b : Bool) (hb : (x.cps.toList != y.cps.toList) = b) (h : Q (.bool b) s) : wpAny (model prog w) A (compareOp .NotEq (.str x t) (.str y u)) Q E s :=
  P.ne_str (by rw [hb]; exact h)
theorem r_add {a b : List Nat} (hn : a.length + b.length ≤ 16777216) (h : ∀ t' k, Q (.str (S (a ++ b)) t') { s with toks := k }) : wpAny (model prog w) A (binaryOp .Add (.str (S a) t) (.str (S b) u)) Q E s :=
  SBL.add (fun t' k _ => by rw [S_app]; exact h t' k) (by rw [S_len, S_len, sizeLine_eq]; exact hn)
theorem glued_S (ls : List (List Nat)) : Txt.join (S []) (ls.map S) = S ls.flatten := by
  show Builtin.Str.glued _ _ = _
  rw [StrLaws.glued_eq_join]
  induction ls with
  | nil => rfl
  | cons a r ih =>
    cases r with
    | nil => show S a = S ([a].flatten); rw [List.flatten_cons, List.flatten_nil, List.append_nil]
    | cons b r =>
      show S a ++ S [] ++ Str.join (S []) ((b :: r).map S) = _
      rw [ih, S_app, S_app]; simp
theorem r_join {D : Addr} {items : Array Value} {ls : List (List Nat)} {sep : Str} (hsep : sep = S []) (hl : s.heap.IsList D items) (hi : StrsAre items.toList (ls.map S)) (hn : ls.flatten.length + ls.length ≤ 1048576)
    (h : ∀ t' k, Q (.str (S ls.flatten) t') { s with toks := k }) : wpAny (model prog w) A (call (.builtin "str.join") [.str sep t, .ref D]) Q E s := by
  subst hsep
  refine join_listW hl hi (by rw [S_len]; exact Nat.zero_le _) ?_ (fun t' k => by rw [glued_S]; exact h t' k)
  have e1 : ((ls.map S).map (·.length)).sum = ls.flatten.length := by
    rw [List.length_flatten, List.map_map]
    congr 1
  rw [e1, List.length_map]; exact hn
end
theorem Keeps_refl (s : Shared) : Keeps s s := ⟨s.heap, s.toks, rfl, fun _ _ e => e⟩
theorem strs_c {vs : List Value} {y : Str} {ys : List Str} (h : StrsAre vs (y :: ys)) : ∃ t vs', vs = .str y t :: vs' ∧ StrsAre vs' ys := by
  cases h with
  | cons k t h => exact ⟨t, _, rfl, h⟩
theorem strs_n {vs : List Value} (h : StrsAre vs []) : vs = [] := by cases h; rfl
end Mine
end
section
open PySem PySem.Spec PySem.Calls PyProof.Rows PySem.W
open PySem.Builtin PySem.Builtin.Str PySem.Builtin.Int
set_option maxHeartbeats 8000000
namespace Mine
noncomputable def fnd (w : List Nat) : List Nat → Option Nat
  | [] => if w.isPrefixOf [] then some 0 else none
  | c :: l => if w.isPrefixOf (c :: l) then some 0 else (fnd w l).map (· + 1)
theorem fnd_some {w : List Nat} : ∀ {l : List Nat} {i : Nat}, i ≤ l.length → w <+: l.drop i → (∀ k, k < i → ¬ w <+: l.drop k) → fnd w l = some i
  | [], i, hi, h, hn => by
    have : i = 0 := by simpa using hi
    subst this
    unfold fnd
    rw [if_pos (by simpa [List.isPrefixOf_iff_prefix] using h)]
  | c :: l, 0, _, h, _ => by
    unfold fnd
    rw [if_pos (List.isPrefixOf_iff_prefix.mpr (by simpa using h))]
  | c :: l, i + 1, hi, h, hn => by
    unfold fnd
    rw [if_neg (fun e => hn 0 (Nat.succ_pos _) (by simpa using List.isPrefixOf_iff_prefix.mp e)),
      fnd_some (l := l) (i := i) (by simpa using hi) (by simpa using h) (fun k hk => by simpa using hn (k + 1) (Nat.succ_lt_succ hk))]
    rfl
theorem fnd_none {w : List Nat} : ∀ {l : List Nat}, (∀ k, k ≤ l.length → ¬ w <+: l.drop k) → fnd w l = none
  | [], h => by
    unfold fnd
    rw [if_neg (fun e => h 0 (Nat.le_refl _) (by simpa using List.isPrefixOf_iff_prefix.mp e))]
  | c :: l, h => by
    unfold fnd
    rw [if_neg (fun e => h 0 (Nat.zero_le _) (by simpa using List.isPrefixOf_iff_prefix.mp e)),
      fnd_none (l := l) (fun k hk => by simpa using h (k + 1) (Nat.succ_le_succ hk))]
    rfl
theorem subAt_S {l w : List Nat} {i : Nat} (hw : i + w.length ≤ l.length) : subAt (S l) (S w) i = true ↔ w <+: l.drop i := by
  rw [StrLaws.subAt_eq]
  show ((l.drop i).take (S w).length == w) = true ↔ _
  rw [S_len, beq_iff_eq]
  constructor
  · intro h; rw [← h]; exact List.take_prefix _ _
  · intro h; exact (List.prefix_iff_eq_take.mp h).symm
section
variable {prog : Program} {w : World} {A : Around} {E : Value → Shared → Prop} {s : Shared} {t u v : Tok} {Q : Value → Shared → Prop}
theorem r_len {l : List Nat} (hn : l.length ≤ 16777216) (h : ∀ t' k, Q (.int (l.length : Int) t') { s with toks := k }) : wpAny (model prog w) A (call (.builtin "len") [.str (S l) t]) Q E s :=
  P.len_str (by rw [S_len]; omega) (by rw [S_len]; exact h _ _)
theorem gives_str_index_from (x y : Str) (i : Int) (t u v : Tok) (k : Nat) (rest : List Nat) (h : occurrences x y (fromIndex x.length i) x.length 1 = k :: rest) : Gives («str.index» ⟨[.str x t, .str y u, .int i v], []⟩) (.int k) := by
  show Gives (match occurrences x y (fromIndex x.length i) (min x.length x.length) 1 with | i :: _ => retInt i | [] => (do rule "str.index.not-found"; raiseError "ValueError" "substring not found")) _
  rw [Nat.min_self, h]
  exact .of_eq rfl
theorem raises_str_index_from (x y : Str) (i : Int) (t u v : Tok) (h : occurrences x y (fromIndex x.length i) x.length 1 = []) : Meets («str.index» ⟨[.str x t, .str y u, .int i v], []⟩) (raisesNew "ValueError") := by
  intro prog w A R s hS
  show wpAny _ _ (match occurrences x y (fromIndex x.length i) (min x.length x.length) 1 with | i :: _ => retInt i | [] => _) _ _ s
  rw [Nat.min_self, h]
  first
    | exact wpAny_bind (wpAny_rule (by exact_raiseError plainExc_ValueError hS.1 hS.2))
    | exact wpAny_bind (wpAny_rule (wpAny_bind (by exact_raiseError plainExc_ValueError hS.1 hS.2)))
theorem pre_le {l x : List Nat} {n : Nat} (hx : 1 ≤ x.length) (hp : x <+: l.drop n) : n + x.length ≤ l.length := by
  have h := hp.length_le
  rw [List.length_drop] at h
  rw [Nat.add_comm]; exact Nat.add_le_of_le_sub (Nat.le_of_lt (Nat.lt_of_sub_pos (Nat.lt_of_lt_of_le hx h))) h
theorem r_index {l x : List Nat} {p : Int} (hA : A.handled = none) (h0 : 0 ≤ p) (hx : x ≠ [])
    (hyes : ∀ i, fnd x (l.drop p.toNat) = some i → ∀ t' k, Q (.int ((p.toNat + i : Nat) : Int) t') { s with toks := k })
    (hno : fnd x (l.drop p.toNat) = none → ∀ h' tk e, Heap.NewExc s.heap h' e "ValueError" → E (.ref e) { s with heap := h', toks := tk }) :
    wpAny (model prog w) A (call (.builtin "str.index") [.str (S l) t, .str (S x) u, .int p v]) Q E s := by
  have hf : fromIndex (S l).length p = p.toNat := by
    unfold fromIndex; rw [if_neg (Int.not_lt.mpr h0), Int.max_eq_right h0]
  have hl : (S l).length = l.length := S_len l
  have hxl : 1 ≤ x.length := by cases x with | nil => exact absurd rfl hx | cons _ _ => simp
  rcases StrLaws.occ_head_from (S l) (S x) (fromIndex (S l).length p) 1 (Nat.le_refl _) with ⟨ho, hn⟩ | ⟨i, r, ho, hlo, hat, hn⟩
  · refine call_meets F.slot_str_index (typeIs_str _ _ _) F.entry_str_index (F.args_str_index_3 _ _ _) (raises_str_index_from _ _ _ _ _ _ ho) ⟨hA, ?_⟩
    refine hno (fnd_none fun k hk hp => ?_)
    rw [List.drop_drop] at hp
    have hle : p.toNat + k + x.length ≤ l.length := pre_le hxl hp
    refine hn (p.toNat + k) (by rw [hf]; exact Nat.le_add_right _ _) ⟨by rw [S_len, S_len]; omega, ?_⟩
    exact (subAt_S hle).mpr hp
  · refine call_gives F.slot_str_index (typeIs_str _ _ _) F.entry_str_index (F.args_str_index_3 _ _ _) (gives_str_index_from _ _ _ _ _ _ _ _ ho) ?_
    rw [hf] at hlo hn
    have hle : i + x.length ≤ l.length := by have := hat.1; rw [S_len, S_len] at this; omega
    have hi : fnd x (l.drop p.toNat) = some (i - p.toNat) := by
      refine fnd_some (by rw [List.length_drop]; exact Nat.sub_le_sub_right (Nat.le_trans (Nat.le_add_right _ _) hle) _) ?_ fun k hk hp => ?_
      · rw [List.drop_drop, Nat.add_sub_of_le hlo]
        exact (subAt_S hle).mp hat.2
      · rw [List.drop_drop] at hp
        have hle : p.toNat + k + x.length ≤ l.length := pre_le hxl hp
        exact hn (p.toNat + k) (Nat.le_add_right _ _) (Nat.add_lt_of_lt_sub' hk) ⟨by rw [S_len, S_len]; omega, (subAt_S hle).mpr hp⟩
    have := hyes _ hi s.toks (s.toks + 1)
    rw [Nat.add_sub_of_le hlo] at this
    exact this
theorem gives_str_count_to (x y : Str) (j : Int) (hj : 0 ≤ j) (t u v v' : Tok) : Gives («str.count» ⟨[.str x t, .str y u, .int 0 v, .int j v'], []⟩) (.int (occurrences x y 0 (min j.toNat x.length) (x.length + 1)).length) := by
  show Gives (retInt (occurrences x y (max 0 (if (0 : Int) < 0 then 0 + (x.length : Int) else 0)).toNat (min (max 0 (if j < 0 then j + (x.length : Int) else j)).toNat x.length) (x.length + 1)).length) _
  rw [if_neg (Int.lt_irrefl 0), if_neg (Int.not_lt.mpr hj)]
  rw [show (max (0 : Int) 0).toNat = 0 by rfl, Int.max_eq_right hj]
  exact .of_eq rfl
theorem occ_nil {l : List Nat} {c : Nat} (h : c ∉ l) (lo hi limit : Nat) : occurrences (S l) (S [c]) lo hi limit = [] := by
  rw [StrLaws.occ_eq]
  have : ∀ (r : List Nat) (st : Array Nat × Nat), (forIn (m := Id) r st (StrLaws.occBody (S l) (S [c]) hi limit)).run = st := by
    intro r
    induction r with
    | nil => intro st; rfl
    | cons a r ih =>
      intro st
      have hs : subAt (S l) (S [c]) a = false := by
        cases q : subAt (S l) (S [c]) a with
        | false => rfl
        | true =>
          rw [StrLaws.subAt_eq] at q
          have q' : ((l.drop a).take 1 == [c]) = true := q
          have := StrLaws.take1_drop.mp q'
          exact absurd (List.mem_of_getElem? this) h
      have e : StrLaws.occBody (S l) (S [c]) hi limit a st = pure (.yield st) := by
        unfold StrLaws.occBody
        simp [hs]
      rw [List.forIn_cons, e]
      exact ih st
  rw [this]
theorem r_count0 {l : List Nat} {c : Nat} {j : Int} {v' : Tok} {y : Str} (hy : y = S [c]) (hc : c ∉ l) (hj : 0 ≤ j) (h : ∀ t' k, Q (.int 0 t') { s with toks := k }) :
    wpAny (model prog w) A (call (.builtin "str.count") [.str (S l) t, .str y u, .int 0 v, .int j v']) Q E s := by
  subst hy
  refine call_gives F.slot_str_count (typeIs_str _ _ _) F.entry_str_count (F.args_str_count_4 _ _ _ _) (gives_str_count_to _ _ _ hj _ _ _ _) ?_
  rw [occ_nil hc]
  exact h _ _
end
end Mine
end
section
open PySem PySem.Spec PySem.Calls PyProof.Rows PySem.W
set_option maxHeartbeats 8000000
namespace Mine
theorem kw2 : True := by
  (k_with "omega" => (k_whole; first | with_reducible assumption | with_reducible exact Nat.zero_le _ | with_reducible exact Int.natCast_nonneg _ | with_reducible exact Nat.le_trans (by assumption) (Nat.le_of_ble_eq_true rfl) | (with_reducible show _ ≠ _); k_extra "ne" | k_extra "lt" | k_extra "bd" | k_extra "om0" | (fail_if_success k_extra "isom0"); (repeat (with_reducible rename _ ∧ _ => h9); clear h9); lia))
  trivial
theorem cut {α : Type} {M : Model} {A : Around} {t : Sem α} {Q : α → Shared → Prop} {E : Value → Shared → Prop} {s : Shared} (P : α → Shared → Prop) (h1 : wpAny M A t P E s) (h2 : ∀ a s', P a s' → Q a s') : wpAny M A t Q E s := wpAny_mono h1 h2 fun _ _ x => x
section
variable {w : World} {base h₀ : Heap} {outer : List Env} {L : Addr} {m : Str → Option Value} {env : Env} {news : List (Addr × Obj)}
  {hd : Option Value} {dp un : Nat} {gd : Option (List Code)} {s : Shared} {Q E : Value → Shared → Prop}
noncomputable abbrev MD (w : World) : Model := model PySem.Challenge.rw_rx0047_01.prog w
end
namespace EC_signs
noncomputable def Pk9 (w : World) (base : Heap) (h₀ : Heap) (outer : List Env) (L : Addr) (m : Str → Option Value) (env : Env) (news : List (Addr × Obj)) (hd : Option Value) (dp : Nat) (un : Nat) (gd : Option (List Code)) (s : Shared) (Q : Value → Shared → Prop) (E : Value → Shared → Prop) (pick : Int) (t0 : Tok) : Prop := ∀ (am : Amb w base h₀ L m env outer news s.heap) (hdp : dp < 500) (hret : ∀ l t1 t2 h' tk, s.heap.StaysIn h' → s.heap.get? l = none → h'.get? l = some (W.listOf #[.str (Txt.item (Str.ofString "*?.-\\][a") (pick.fmod 8)) t1, .str (Txt.item (Str.ofString "*?.-\\][a") ((pick.fmod 8 + 1 + (pick.fdiv 8).fmod 7).fmod 8)) t2] 0) → Q (.ref l) { s with heap := h', toks := tk }),
    wpAny (MD w) (ar hd dp un gd env outer) (call (.ref 133) [.int pick t0]) Q E s
noncomputable def Pu9 (x : ((((((World) × (Heap)) × (Heap)) × ((List Env) × (Addr))) × (((Str → Option Value) × (Env)) × ((List (Addr × Obj)) × (Option Value)))) × ((((Nat) × (Nat)) × ((Option (List Code)) × (Shared))) × (((Value → Shared → Prop) × (Value → Shared → Prop)) × ((Int) × (Tok)))))) : Prop := Pk9 x.1.1.1.1.1 x.1.1.1.1.2 x.1.1.1.2 x.1.1.2.1 x.1.1.2.2 x.1.2.1.1 x.1.2.1.2 x.1.2.2.1 x.1.2.2.2 x.2.1.1.1 x.2.1.1.2 x.2.1.2.1 x.2.1.2.2 x.2.2.1.1 x.2.2.1.2 x.2.2.2.1 x.2.2.2.2
noncomputable def ck9 : {x : _ // Pu9 x → ∀ y, Pu9 y} := Classical.choice (drink (by repeat (first | exact neS | exact neW | exact neA | refine ne2 ?_ ?_ | exact ⟨default⟩ | exact ⟨fun _ _ => True⟩ | exact ⟨fun _ => True⟩ | exact ⟨fun _ => default⟩ | exact ⟨fun _ _ => default⟩)))
noncomputable def w : World := ck9.1.1.1.1.1.1
noncomputable def base : Heap := ck9.1.1.1.1.1.2
noncomputable def h₀ : Heap := ck9.1.1.1.1.2
noncomputable def outer : List Env := ck9.1.1.1.2.1
noncomputable def L : Addr := ck9.1.1.1.2.2
noncomputable def m : Str → Option Value := ck9.1.1.2.1.1
noncomputable def env : Env := ck9.1.1.2.1.2
noncomputable def news : List (Addr × Obj) := ck9.1.1.2.2.1
noncomputable def hd : Option Value := ck9.1.1.2.2.2
noncomputable def dp : Nat := ck9.1.2.1.1.1
noncomputable def un : Nat := ck9.1.2.1.1.2
noncomputable def gd : Option (List Code) := ck9.1.2.1.2.1
noncomputable def s : Shared := ck9.1.2.1.2.2
noncomputable def Q : Value → Shared → Prop := ck9.1.2.2.1.1
noncomputable def E : Value → Shared → Prop := ck9.1.2.2.1.2
noncomputable def pick : Int := ck9.1.2.2.2.1
noncomputable def t0 : Tok := ck9.1.2.2.2.2
theorem kk9 : Pk9 w base h₀ outer L m env news hd dp un gd s Q E pick t0 := by
  intro am hdp hret
  have htb : ∀ p ∈ ([] : List (Addr × Obj)), p ∈ news := fun p hp => nomatch hp
  have mk9 : Clm := ⟨trivial⟩
  obtain ⟨⟨A₀, B⟩, F, X, N, ⟨p, loose, mean, mg, mb, T⟩, hf, hke⟩ := am
  have XX := Frag.In.keeps X (Fr.keep F)
  have hK : (fun (_ : OpenLaw) (_ : Params → Frag) => True) PySem.Challenge.rw_rx0047_01 Mine.hd0.heap_1 := by (k_fill; trivial)
  refine' wpAny_call (enter (binds := [(Str.ofString "pick", .int pick t0)]) B F N htb (Top.nolimit T) rfl hf hke ?ho ?hd ?hcd ?hroom ?hbind ?hloc ?h ?hcell ?hco ?hgen ?hk)
  (case ho => exact XX _ _ (by k_is))
  (case hd => exact rfl)
  (case hcd => exact codeRec_of XX (by k_is))
  (case hroom => exact Nat.lt_of_lt_of_le hdp (by decide))
  (case hbind => first | exact BindsTo.of_eq rfl | exact binds_K XX rfl (by k_is) rfl rfl rfl)
  (case hloc => exact locs rfl)
  (case hcell => decide)
  (case hco => exact rfl)
  (case hgen => exact rfl)
  (case hk => exact rfl)
  intro g L' h₁ tk₁ hg F' N' B' st l1
  have X' := Frag.In.keeps X st
  have T' := Top.keeps T st
  (try k_lt l1)
  (try dsimp only)
  (try k_fold)
  clear hK
  (try revert T')
  (try revert X')
  (try revert l1)
  (try revert st)
  (try revert B')
  (try revert N')
  (try revert F')
  (try revert hg)
  (try revert hK)
  (try revert XX)
  (try revert hke)
  (try revert hf)
  (try revert T)
  (try revert N)
  (try revert X)
  (try revert F)
  (try revert B)
  (repeat ((rename (_ : Prop) => z9); (fail_if_success (have : Clm := z9)); revert z9))
  revert A₀ p loose mean mg mb g L' h₁ tk₁
  (refine no_implicit_lambda% (close10 38255 ?ne_e (R := ?R_e) ((?nw_e : ∀ A₀ p loose mean mg mb g L' h₁ tk₁, ?R_e A₀ p loose mean mg mb g L' h₁ tk₁) (Mine.cl 38255 ?ne_e (un10 ?R_e)).1.1.1.1 (Mine.cl 38255 ?ne_e (un10 ?R_e)).1.1.1.2 (Mine.cl 38255 ?ne_e (un10 ?R_e)).1.1.2 (Mine.cl 38255 ?ne_e (un10 ?R_e)).1.2.1 (Mine.cl 38255 ?ne_e (un10 ?R_e)).1.2.2 (Mine.cl 38255 ?ne_e (un10 ?R_e)).2.1.1.1 (Mine.cl 38255 ?ne_e (un10 ?R_e)).2.1.1.2 (Mine.cl 38255 ?ne_e (un10 ?R_e)).2.1.2 (Mine.cl 38255 ?ne_e (un10 ?R_e)).2.2.1 (Mine.cl 38255 ?ne_e (un10 ?R_e)).2.2.2)))
  (case ne_e => repeat (first | exact ⟨default⟩ | exact neS | exact neW | exact neA | refine ne2 ?_ ?_))
  intro A₀ p loose mean mg mb g L' h₁ tk₁
  (set_option tactic.hygienic false in intros)
  have mk9 : Clm := ⟨trivial⟩
  have fo9 : FoldOn := ⟨trivial⟩
  k_steps
  walk_at "nm"
  have hs := stays hg N htb F' N' (by repeat (first | exact List.forall_mem_nil _ | refine List.forall_mem_cons.mpr ⟨by k_mem, ?_⟩))
  exact hret _ _ _ _ _ (by first | exact hs | exact N'.get (by k_mem) | exact ⟨_, N'.get (by k_mem)⟩ | exact fresh hg N' (by k_mem) (by k_all)) (by first | exact hs | exact N'.get (by k_mem) | exact ⟨_, N'.get (by k_mem)⟩ | exact fresh hg N' (by k_mem) (by k_all)) (by first | exact hs | exact N'.get (by k_mem) | exact ⟨_, N'.get (by k_mem)⟩ | exact fresh hg N' (by k_mem) (by k_all))
end EC_signs
section
variable {w : World} {base h₀ : Heap} {outer : List Env} {L : Addr} {m : Str → Option Value} {env : Env} {news : List (Addr × Obj)}
  {hd : Option Value} {dp un : Nat} {gd : Option (List Code)} {s : Shared} {Q E : Value → Shared → Prop}
theorem C_signs {pick : Int} {t0 : Tok} (am : Amb w base h₀ L m env outer news s.heap) (hdp : dp < 500)
    (hret : ∀ l t1 t2 h' tk, s.heap.StaysIn h' → s.heap.get? l = none → h'.get? l = some (W.listOf #[.str (Txt.item (Str.ofString "*?.-\\][a") (pick.fmod 8)) t1, .str (Txt.item (Str.ofString "*?.-\\][a") ((pick.fmod 8 + 1 + (pick.fdiv 8).fmod 7).fmod 8)) t2] 0) → Q (.ref l) { s with heap := h', toks := tk }) :
    wpAny (MD w) (ar hd dp un gd env outer) (call (.ref 133) [.int pick t0]) Q E s :=
  EC_signs.ck9.2 EC_signs.kk9 (((((w, base), h₀), (outer, L)), ((m, env), (news, hd))), (((dp, un), (gd, s)), ((Q, E), (pick, t0)))) am hdp hret
noncomputable def wordL (k : Int) (a b : Nat) : List Nat := if k = 0 then [a] else if k = 1 then [b] else if k = 2 then [a, a] else if k = 3 then [a, b] else if k = 4 then [b, a] else [b, b]
noncomputable def digL (k : Int) : List Int := if k = 0 then [0] else if k = 1 then [1] else if k = 2 then [0, 0] else if k = 3 then [0, 1] else if k = 4 then [1, 0] else [1, 1]
theorem digL_cases (k : Int) : digL k = [0] ∨ digL k = [1] ∨ digL k = [0, 0] ∨ digL k = [0, 1] ∨ digL k = [1, 0] ∨ digL k = [1, 1] := by
  unfold digL; (repeat' split) <;> simp
theorem word_dig (k : Int) (a b : Nat) : wordL k a b = (digL k).map (fun k => if k = 0 then a else b) := by
  unfold digL wordL; (repeat' split) <;> simp
theorem fl1 {α β : Type} (f : α → β) : ∀ l : List α, (l.map fun k => [f k]).flatten = l.map f
  | [] => rfl
  | a :: l => by rw [List.map_cons, List.flatten_cons, fl1 f l]; rfl
theorem ints_mem {vs : List Value} {ns : List Int} (h : IntsAre vs ns) {v : Value} (hv : v ∈ vs) : ∃ k ∈ ns, ∃ t, v = .int k t := by
  induction h with
  | nil => cases hv
  | cons k t _ ih =>
    rcases List.mem_cons.mp hv with rfl | hv
    · exact ⟨k, List.mem_cons_self .., t, rfl⟩
    · obtain ⟨k', hk, t', e⟩ := ih hv
      exact ⟨k', List.mem_cons_of_mem _ hk, t', e⟩
theorem paired_word {vs ys : List Value} {ks : List Int} {a b : Nat} (hi : IntsAre vs ks) (hp : Paired (fun v y => ∃ k t t', v = Value.int k t ∧ y = Value.str (if k = 0 then S [a] else S [b]) t') vs ys) :
    StrsAre ys ((ks.map (fun k => [if k = 0 then a else b])).map S) := by
  induction hi generalizing ys with
  | nil => cases hp; exact .nil
  | cons k t hi ih =>
    cases hp with
    | cons h1 hp =>
      obtain ⟨k1, t1, t1', e, rfl⟩ := h1
      injection e with e _
      subst e
      by_cases h0 : k = 0
      · simp only [h0, if_true, List.map_cons]; exact .cons _ _ (ih hp)
      · simp only [h0, if_false, List.map_cons]; exact .cons _ _ (ih hp)
theorem C_word {num : Int} {t0 t1 t2 : Tok} {a b : Nat} {l : Addr} {n : Nat} (am : Amb w base h₀ L m env outer news s.heap) (hdp : dp < 500)
    (hm : (l, W.listOf #[.str (S [a]) t1, .str (S [b]) t2] n) ∈ news)
    (hret : ∀ t h' tk, s.heap.StaysIn h' → Q (.str (S (wordL (num.fmod 6) a b)) t) { s with heap := h', toks := tk }) :
    wpAny (MD w) (ar none dp un gd env outer) (call (.ref 138) [.int num t0, .ref l]) Q E s := by
  (try revert hret)
  (try revert hm)
  (try revert hdp)
  (try revert am)
  (repeat ((rename (_ : Prop) => z9); (fail_if_success (have : Clm := z9)); revert z9))
  revert w base h₀ outer L m env news dp un gd s Q E num t0 t1 t2 a b l n
  (refine no_implicit_lambda% (close22 64900 ?ne_z1 (R := ?R_z1) ((?nw_z1 : ∀ w base h₀ outer L m env news dp un gd s Q E num t0 t1 t2 a b l n, ?R_z1 w base h₀ outer L m env news dp un gd s Q E num t0 t1 t2 a b l n) (Mine.cl 64900 ?ne_z1 (un22 ?R_z1)).1.1.1.1.1 (Mine.cl 64900 ?ne_z1 (un22 ?R_z1)).1.1.1.1.2 (Mine.cl 64900 ?ne_z1 (un22 ?R_z1)).1.1.1.2 (Mine.cl 64900 ?ne_z1 (un22 ?R_z1)).1.1.2.1.1 (Mine.cl 64900 ?ne_z1 (un22 ?R_z1)).1.1.2.1.2 (Mine.cl 64900 ?ne_z1 (un22 ?R_z1)).1.1.2.2 (Mine.cl 64900 ?ne_z1 (un22 ?R_z1)).1.2.1.1.1 (Mine.cl 64900 ?ne_z1 (un22 ?R_z1)).1.2.1.1.2 (Mine.cl 64900 ?ne_z1 (un22 ?R_z1)).1.2.1.2 (Mine.cl 64900 ?ne_z1 (un22 ?R_z1)).1.2.2.1 (Mine.cl 64900 ?ne_z1 (un22 ?R_z1)).1.2.2.2 (Mine.cl 64900 ?ne_z1 (un22 ?R_z1)).2.1.1.1.1 (Mine.cl 64900 ?ne_z1 (un22 ?R_z1)).2.1.1.1.2 (Mine.cl 64900 ?ne_z1 (un22 ?R_z1)).2.1.1.2 (Mine.cl 64900 ?ne_z1 (un22 ?R_z1)).2.1.2.1.1 (Mine.cl 64900 ?ne_z1 (un22 ?R_z1)).2.1.2.1.2 (Mine.cl 64900 ?ne_z1 (un22 ?R_z1)).2.1.2.2 (Mine.cl 64900 ?ne_z1 (un22 ?R_z1)).2.2.1.1.1 (Mine.cl 64900 ?ne_z1 (un22 ?R_z1)).2.2.1.1.2 (Mine.cl 64900 ?ne_z1 (un22 ?R_z1)).2.2.1.2 (Mine.cl 64900 ?ne_z1 (un22 ?R_z1)).2.2.2.1 (Mine.cl 64900 ?ne_z1 (un22 ?R_z1)).2.2.2.2)))
  (case ne_z1 => repeat (first | exact ⟨default⟩ | exact neS | exact neW | exact neA | refine ne2 ?_ ?_))
  intro w base h₀ outer L m env news dp un gd s Q E num t0 t1 t2 a b l n
  (set_option tactic.hygienic false in intros)
  have mk9 : Clm := ⟨trivial⟩
  have htb : ∀ p ∈ [(l, W.listOf #[.str (S [a]) t1, .str (S [b]) t2] n)], p ∈ news := fun p hp => by rw [List.mem_singleton.mp hp]; exact hm
  (
    have mk9 : Clm := ⟨trivial⟩
    obtain ⟨⟨A₀, B⟩, F, X, N, ⟨p, loose, mean, mg, mb, T⟩, hf, hke⟩ := am
    have XX := Frag.In.keeps X (Fr.keep F)
    have hK : (fun (_ : OpenLaw) (_ : Params → Frag) => True) PySem.Challenge.rw_rx0047_01 Mine.hd0.heap_1 := by (k_fill; trivial)
    refine' wpAny_call (enterC (binds := [(Str.ofString "number", .int num t0), (Str.ofString "signs", .ref l)]) B F N htb (Top.nolimit T) rfl hf hke ?ho_e2 ?hd_e2 ?hcd_e2 ?hroom_e2 ?hbind_e2 ?hkind_e2 ?hnd_e2 ?h_e2 ?hco_e2 ?hgen_e2 ?hk_e2)
    (case ho_e2 => exact XX _ _ (by k_is))
    (case hd_e2 => exact rfl)
    (case hcd_e2 => exact codeRec_of XX (by k_is))
    (case hroom_e2 => exact Nat.lt_of_lt_of_le hdp (by decide))
    (case hbind_e2 => first | exact BindsTo.of_eq rfl | exact binds_K XX rfl (by k_is) rfl rfl rfl)
    (case hkind_e2 => exact rfl)
    (case hnd_e2 => decide +kernel)
    (case hco_e2 => exact rfl)
    (case hgen_e2 => exact rfl)
    (case hk_e2 => exact rfl)
    intro g L' h₁ tk₁ cells' hg F' N' Y' B' st l1
    have X' := Frag.In.keeps X st
    have T' := Top.keeps T st
    (try k_lt l1)
    k_cells Y'
    rename_i c1 e1
    (try simp only [List.cons_append, List.nil_append] at N')
    (try dsimp only)
    (try k_fold)
    clear hK
    (try revert e1)
    (try revert T')
    (try revert X')
    (try revert l1)
    (try revert st)
    (try revert B')
    (try revert N')
    (try revert F')
    (try revert hg)
    (try revert hK)
    (try revert XX)
    (try revert hke)
    (try revert hf)
    (try revert T)
    (try revert N)
    (try revert X)
    (try revert F)
    (try revert B)
    (repeat ((rename (_ : Prop) => z9); (fail_if_success (have : Clm := z9)); revert z9))
    revert A₀ p loose mean mg mb g L' h₁ tk₁ c1
    (refine no_implicit_lambda% (close11 12223 ?ne_e1 (R := ?R_e1) ((?nw_e1 : ∀ A₀ p loose mean mg mb g L' h₁ tk₁ c1, ?R_e1 A₀ p loose mean mg mb g L' h₁ tk₁ c1) (Mine.cl 12223 ?ne_e1 (un11 ?R_e1)).1.1.1.1 (Mine.cl 12223 ?ne_e1 (un11 ?R_e1)).1.1.1.2 (Mine.cl 12223 ?ne_e1 (un11 ?R_e1)).1.1.2 (Mine.cl 12223 ?ne_e1 (un11 ?R_e1)).1.2.1.1 (Mine.cl 12223 ?ne_e1 (un11 ?R_e1)).1.2.1.2 (Mine.cl 12223 ?ne_e1 (un11 ?R_e1)).1.2.2 (Mine.cl 12223 ?ne_e1 (un11 ?R_e1)).2.1.1.1 (Mine.cl 12223 ?ne_e1 (un11 ?R_e1)).2.1.1.2 (Mine.cl 12223 ?ne_e1 (un11 ?R_e1)).2.1.2 (Mine.cl 12223 ?ne_e1 (un11 ?R_e1)).2.2.1 (Mine.cl 12223 ?ne_e1 (un11 ?R_e1)).2.2.2)))
    (case ne_e1 => repeat (first | exact ⟨default⟩ | exact neS | exact neW | exact neA | refine ne2 ?_ ?_))
    intro A₀ p loose mean mg mb g L' h₁ tk₁ c1
    (set_option tactic.hygienic false in intros)
    have mk9 : Clm := ⟨trivial⟩
    have fo9 : FoldOn := ⟨trivial⟩
  )
  iterate 5 walk1
  (refine callWith_method1 ?_)
  walk1
  (try k_fold)
  (with_reducible refine' compK (fun _ => true) (fun v y => ∃ k t t', v = .int k t ∧ y = .str (if k = 0 then S [a] else S [b]) t') ?c1 ?c2 ?c3 ?c4 ?c5 ?c6 ?_ ?c7)
  (case c1 => exact rfl)
  (case c2 => with_unfolding_all rfl)
  (case c3 => decide)
  (case c4 => exact rfl)
  (case c5 => decide)
  (case c6 => exact rfl)
  (case c7 => intro _; exact rfl)
  walk_at "nm"
  (with_reducible refine' cut ?P ?A ?B)
  (case P => exact (fun xv s₁ => Hold (∃ ax vs h' tk m', s₁ = { s with heap := h', toks := tk } ∧ xv = .ref ax ∧ h'.IsList ax (List.toArray vs) ∧ IntsAre vs (digL (num.fmod 6)) ∧ Fr g L' h' m' ∧ News g L' h' [(L' + 1, c1), (l, W.listOf #[.str (S [a]) t1, .str (S [b]) t2] n)])))
  case A =>
    k_steps
    all_goals (
      (rename Fr _ _ _ _ => F2)
      (rename News _ _ _ _ => N2)
      refine ⟨_, _, _, _, _, rfl, rfl, N2.isList (by k_mem), ?_, F2, cb_drop N2 (by repeat (first | exact List.forall_mem_nil _ | refine List.forall_mem_cons.mpr ⟨by k_mem, ?_⟩))⟩)
    all_goals first
      | (rw [show num.fmod 6 = 0 by assumption]; exact .cons _ _ .nil)
      | (rw [show num.fmod 6 = 1 by assumption]; exact .cons _ _ .nil)
      | (rw [show num.fmod 6 = 2 by assumption]; exact .cons _ _ (.cons _ _ .nil))
      | (rw [show num.fmod 6 = 3 by assumption]; exact .cons _ _ (.cons _ _ .nil))
      | (rw [show num.fmod 6 = 4 by assumption]; exact .cons _ _ (.cons _ _ .nil))
      | (rw [show num.fmod 6 = 5 by assumption]; exact .cons _ _ (.cons _ _ .nil))
  case B =>
    rintro _ _ ⟨ax, vs, h2, tk2, m2, rfl, rfl, hl, hi, F2, N2⟩
    clear F' N'
    unfold Hold
    have hlen : vs.length ≤ 2 := by
      rw [hi.length]
      rcases digL_cases (num.fmod 6) with h | h | h | h | h | h <;> rw [h] <;> decide
    refine ⟨ax, vs, rfl, hl, Nat.le_trans hlen (by rw [sizeLine_eq]; decide), ?_, ?_, ?_⟩
    · intro C v s₂ m₂ E' hv hC hn hx hk
      exact wpAny_pure ⟨rfl, Keeps_refl _⟩
    · intro C v s₂ m₂ E' hv _ hC hn hx hk
      have hv' : ∃ k t, v = .int k t ∧ (k = 0 ∨ k = 1) := by
        obtain ⟨k, hk, t, rfl⟩ := ints_mem hi hv
        refine ⟨k, t, rfl, ?_⟩
        rcases digL_cases (num.fmod 6) with h | h | h | h | h | h <;> rw [h] at hk <;> simp at hk <;> omega
      clear hv
      obtain ⟨k, t, rfl, rfl | rfl⟩ := hv'
      · k_steps
        exact Keeps_refl _
      · k_steps
        exact Keeps_refl _
    · intro D ys h' tk hs hD hl hp
      have hL := Heap.PlainList.isList hl
      obtain ⟨nn, hl⟩ := hl
      have F' := backF F2 hs
      have N' := backA F2 (backN N2 hs) hl hD
      rw [List.filter_eq_self.mpr (fun _ _ => rfl)] at hp
      have h1 := paired_word hi hp
      (try k_unmd)
      k_unfold
      (try dsimp only)
      walk1
      refine r_join rfl hL h1 ?_ ?_
      · rw [fl1, List.length_map, List.length_map, ← hi.length]; omega
      intro t' k
      k_steps
      rw [fl1, ← word_dig]
      have hsA := stays hg N htb F' N' (by repeat (first | exact List.forall_mem_nil _ | refine List.forall_mem_cons.mpr ⟨by k_mem, ?_⟩))
      exact hret _ _ _ hsA
end
end Mine
end
section
open PySem PySem.Spec PySem.Calls PyProof.Rows PySem.W
namespace Mine
inductive Ex3 {T0 T1 T2 : Type} (p : T0 → T1 → T2 → Prop) : Prop where
  | mk (x0 : T0) (x1 : T1) (x2 : T2) : p x0 x1 x2 → Ex3 p
inductive Ex4 {T0 T1 T2 T3 : Type} (p : T0 → T1 → T2 → T3 → Prop) : Prop where
  | mk (x0 : T0) (x1 : T1) (x2 : T2) (x3 : T3) : p x0 x1 x2 x3 → Ex4 p
inductive Ex5 {T0 T1 T2 T3 T4 : Type} (p : T0 → T1 → T2 → T3 → T4 → Prop) : Prop where
  | mk (x0 : T0) (x1 : T1) (x2 : T2) (x3 : T3) (x4 : T4) : p x0 x1 x2 x3 x4 → Ex5 p
inductive Ex6 {T0 T1 T2 T3 T4 T5 : Type} (p : T0 → T1 → T2 → T3 → T4 → T5 → Prop) : Prop where
  | mk (x0 : T0) (x1 : T1) (x2 : T2) (x3 : T3) (x4 : T4) (x5 : T5) : p x0 x1 x2 x3 x4 x5 → Ex6 p
inductive Ex7 {T0 T1 T2 T3 T4 T5 T6 : Type} (p : T0 → T1 → T2 → T3 → T4 → T5 → T6 → Prop) : Prop where
  | mk (x0 : T0) (x1 : T1) (x2 : T2) (x3 : T3) (x4 : T4) (x5 : T5) (x6 : T6) : p x0 x1 x2 x3 x4 x5 x6 → Ex7 p
inductive Ex8 {T0 T1 T2 T3 T4 T5 T6 T7 : Type} (p : T0 → T1 → T2 → T3 → T4 → T5 → T6 → T7 → Prop) : Prop where
  | mk (x0 : T0) (x1 : T1) (x2 : T2) (x3 : T3) (x4 : T4) (x5 : T5) (x6 : T6) (x7 : T7) : p x0 x1 x2 x3 x4 x5 x6 x7 → Ex8 p
inductive Ex10 {T0 T1 T2 T3 T4 T5 T6 T7 T8 T9 : Type} (p : T0 → T1 → T2 → T3 → T4 → T5 → T6 → T7 → T8 → T9 → Prop) : Prop where
  | mk (x0 : T0) (x1 : T1) (x2 : T2) (x3 : T3) (x4 : T4) (x5 : T5) (x6 : T6) (x7 : T7) (x8 : T8) (x9 : T9) : p x0 x1 x2 x3 x4 x5 x6 x7 x8 x9 → Ex10 p
inductive Ex12 {T0 T1 T2 T3 T4 T5 T6 T7 T8 T9 T10 T11 : Type} (p : T0 → T1 → T2 → T3 → T4 → T5 → T6 → T7 → T8 → T9 → T10 → T11 → Prop) : Prop where
  | mk (x0 : T0) (x1 : T1) (x2 : T2) (x3 : T3) (x4 : T4) (x5 : T5) (x6 : T6) (x7 : T7) (x8 : T8) (x9 : T9) (x10 : T10) (x11 : T11) : p x0 x1 x2 x3 x4 x5 x6 x7 x8 x9 x10 x11 → Ex12 p
inductive CE2 {α T0 T1 : Type} (f0 : α) (st : T0 → T1 → Shared) (P : T0 → T1 → Prop) : α → Shared → Prop
  | mk (x0 x1) (z : P x0 x1) : CE2 f0 st P f0 (st x0 x1)
theorem cutE2 {α T0 T1 : Type} {M : Model} {A : Around} {t : Sem α} {Q : α → Shared → Prop} {E : Value → Shared → Prop} {s : Shared} (f0 : α) (st : T0 → T1 → Shared) (P : T0 → T1 → Prop) (h1 : wpAny M A t (CE2 f0 st P) E s) (h2 : ∀ x0 x1, P x0 x1 → Q f0 (st x0 x1)) : wpAny M A t Q E s := wpAny_mono h1 (fun _ _ x => by cases x with | mk x0 x1 z => exact h2 x0 x1 z) fun _ _ x => x
inductive CE4 {α T0 T1 T2 T3 : Type} (f0 : α) (st : T0 → T1 → T2 → T3 → Shared) (P : T0 → T1 → T2 → T3 → Prop) : α → Shared → Prop
  | mk (x0 x1 x2 x3) (z : P x0 x1 x2 x3) : CE4 f0 st P f0 (st x0 x1 x2 x3)
theorem cutE4 {α T0 T1 T2 T3 : Type} {M : Model} {A : Around} {t : Sem α} {Q : α → Shared → Prop} {E : Value → Shared → Prop} {s : Shared} (f0 : α) (st : T0 → T1 → T2 → T3 → Shared) (P : T0 → T1 → T2 → T3 → Prop) (h1 : wpAny M A t (CE4 f0 st P) E s) (h2 : ∀ x0 x1 x2 x3, P x0 x1 x2 x3 → Q f0 (st x0 x1 x2 x3)) : wpAny M A t Q E s := wpAny_mono h1 (fun _ _ x => by cases x with | mk x0 x1 x2 x3 z => exact h2 x0 x1 x2 x3 z) fun _ _ x => x
inductive CE5 {α T0 T1 T2 T3 T4 : Type} (f0 : α) (st : T0 → T1 → T2 → T3 → T4 → Shared) (P : T0 → T1 → T2 → T3 → T4 → Prop) : α → Shared → Prop
  | mk (x0 x1 x2 x3 x4) (z : P x0 x1 x2 x3 x4) : CE5 f0 st P f0 (st x0 x1 x2 x3 x4)
theorem cutE5 {α T0 T1 T2 T3 T4 : Type} {M : Model} {A : Around} {t : Sem α} {Q : α → Shared → Prop} {E : Value → Shared → Prop} {s : Shared} (f0 : α) (st : T0 → T1 → T2 → T3 → T4 → Shared) (P : T0 → T1 → T2 → T3 → T4 → Prop) (h1 : wpAny M A t (CE5 f0 st P) E s) (h2 : ∀ x0 x1 x2 x3 x4, P x0 x1 x2 x3 x4 → Q f0 (st x0 x1 x2 x3 x4)) : wpAny M A t Q E s := wpAny_mono h1 (fun _ _ x => by cases x with | mk x0 x1 x2 x3 x4 z => exact h2 x0 x1 x2 x3 x4 z) fun _ _ x => x
inductive CE9 {α T0 T1 T2 T3 T4 T5 T6 T7 T8 : Type} (f0 : α) (st : T0 → T1 → T2 → T3 → T4 → T5 → T6 → T7 → T8 → Shared) (P : T0 → T1 → T2 → T3 → T4 → T5 → T6 → T7 → T8 → Prop) : α → Shared → Prop
  | mk (x0 x1 x2 x3 x4 x5 x6 x7 x8) (z : P x0 x1 x2 x3 x4 x5 x6 x7 x8) : CE9 f0 st P f0 (st x0 x1 x2 x3 x4 x5 x6 x7 x8)
theorem cutE9 {α T0 T1 T2 T3 T4 T5 T6 T7 T8 : Type} {M : Model} {A : Around} {t : Sem α} {Q : α → Shared → Prop} {E : Value → Shared → Prop} {s : Shared} (f0 : α) (st : T0 → T1 → T2 → T3 → T4 → T5 → T6 → T7 → T8 → Shared) (P : T0 → T1 → T2 → T3 → T4 → T5 → T6 → T7 → T8 → Prop) (h1 : wpAny M A t (CE9 f0 st P) E s) (h2 : ∀ x0 x1 x2 x3 x4 x5 x6 x7 x8, P x0 x1 x2 x3 x4 x5 x6 x7 x8 → Q f0 (st x0 x1 x2 x3 x4 x5 x6 x7 x8)) : wpAny M A t Q E s := wpAny_mono h1 (fun _ _ x => by cases x with | mk x0 x1 x2 x3 x4 x5 x6 x7 x8 z => exact h2 x0 x1 x2 x3 x4 x5 x6 x7 x8 z) fun _ _ x => x
inductive CE12 {α T0 T1 T2 T3 T4 T5 T6 T7 T8 T9 T10 T11 : Type} (f0 : α) (st : T0 → T1 → T2 → T3 → T4 → T5 → T6 → T7 → T8 → T9 → T10 → T11 → Shared) (P : T0 → T1 → T2 → T3 → T4 → T5 → T6 → T7 → T8 → T9 → T10 → T11 → Prop) : α → Shared → Prop
  | mk (x0 x1 x2 x3 x4 x5 x6 x7 x8 x9 x10 x11) (z : P x0 x1 x2 x3 x4 x5 x6 x7 x8 x9 x10 x11) : CE12 f0 st P f0 (st x0 x1 x2 x3 x4 x5 x6 x7 x8 x9 x10 x11)
theorem cutE12 {α T0 T1 T2 T3 T4 T5 T6 T7 T8 T9 T10 T11 : Type} {M : Model} {A : Around} {t : Sem α} {Q : α → Shared → Prop} {E : Value → Shared → Prop} {s : Shared} (f0 : α) (st : T0 → T1 → T2 → T3 → T4 → T5 → T6 → T7 → T8 → T9 → T10 → T11 → Shared) (P : T0 → T1 → T2 → T3 → T4 → T5 → T6 → T7 → T8 → T9 → T10 → T11 → Prop) (h1 : wpAny M A t (CE12 f0 st P) E s) (h2 : ∀ x0 x1 x2 x3 x4 x5 x6 x7 x8 x9 x10 x11, P x0 x1 x2 x3 x4 x5 x6 x7 x8 x9 x10 x11 → Q f0 (st x0 x1 x2 x3 x4 x5 x6 x7 x8 x9 x10 x11)) : wpAny M A t Q E s := wpAny_mono h1 (fun _ _ x => by cases x with | mk x0 x1 x2 x3 x4 x5 x6 x7 x8 x9 x10 x11 z => exact h2 x0 x1 x2 x3 x4 x5 x6 x7 x8 x9 x10 x11 z) fun _ _ x => x
inductive CE16 {α T0 T1 T2 T3 T4 T5 T6 T7 T8 T9 T10 T11 T12 T13 T14 T15 : Type} (f0 : α) (st : T0 → T1 → T2 → T3 → T4 → T5 → T6 → T7 → T8 → T9 → T10 → T11 → T12 → T13 → T14 → T15 → Shared) (P : T0 → T1 → T2 → T3 → T4 → T5 → T6 → T7 → T8 → T9 → T10 → T11 → T12 → T13 → T14 → T15 → Prop) : α → Shared → Prop
  | mk (x0 x1 x2 x3 x4 x5 x6 x7 x8 x9 x10 x11 x12 x13 x14 x15) (z : P x0 x1 x2 x3 x4 x5 x6 x7 x8 x9 x10 x11 x12 x13 x14 x15) : CE16 f0 st P f0 (st x0 x1 x2 x3 x4 x5 x6 x7 x8 x9 x10 x11 x12 x13 x14 x15)
theorem cutE16 {α T0 T1 T2 T3 T4 T5 T6 T7 T8 T9 T10 T11 T12 T13 T14 T15 : Type} {M : Model} {A : Around} {t : Sem α} {Q : α → Shared → Prop} {E : Value → Shared → Prop} {s : Shared} (f0 : α) (st : T0 → T1 → T2 → T3 → T4 → T5 → T6 → T7 → T8 → T9 → T10 → T11 → T12 → T13 → T14 → T15 → Shared) (P : T0 → T1 → T2 → T3 → T4 → T5 → T6 → T7 → T8 → T9 → T10 → T11 → T12 → T13 → T14 → T15 → Prop) (h1 : wpAny M A t (CE16 f0 st P) E s) (h2 : ∀ x0 x1 x2 x3 x4 x5 x6 x7 x8 x9 x10 x11 x12 x13 x14 x15, P x0 x1 x2 x3 x4 x5 x6 x7 x8 x9 x10 x11 x12 x13 x14 x15 → Q f0 (st x0 x1 x2 x3 x4 x5 x6 x7 x8 x9 x10 x11 x12 x13 x14 x15)) : wpAny M A t Q E s := wpAny_mono h1 (fun _ _ x => by cases x with | mk x0 x1 x2 x3 x4 x5 x6 x7 x8 x9 x10 x11 x12 x13 x14 x15 z => exact h2 x0 x1 x2 x3 x4 x5 x6 x7 x8 x9 x10 x11 x12 x13 x14 x15 z) fun _ _ x => x
end Mine
end
section
open PySem PySem.Spec PySem.Calls PyProof.Rows PySem.W
set_option maxHeartbeats 8000000
namespace Mine
theorem ns_at {h : Heap} {a : Addr} {o : Obj} {es : Array DictEntry} {ep : _} (e : h.get? a = some o) (hd : o.data = .dict es ep)
    (hs : (es.toList.all fun e => match e.key with | .str _ _ => true | _ => false) = true) : h.Ns a (fun n => nsFind es n) := by
  refine ⟨o, es, ep, e, hd, fun x hx => ?_, fun _ => rfl⟩
  have := List.all_eq_true.mp hs x (Array.mem_toList_iff.mpr hx)
  revert this
  cases x.key <;> intro this <;> first | exact ⟨_, _, rfl⟩ | cases this
structure MadeE (G h : Heap) (e t : Addr) (x : Str) : Prop where
  ne : G.get? e = none
  nt : G.get? t = none
  ob : h.get? e = some { cls := .ref 41, data := .fields #[.ref t, .none, .none, .none, .bool false, .none] }
  tu : ∃ k, h.get? t = some { cls := .type "tuple", data := .seq #[.str x k] }
theorem r_mkerr {prog : Program} {w w' : World} {A : Around} {Q E : Value → Shared → Prop} {s : Shared} {x : Str} {t : Tok} (X : (Mine.hd0.heap_1 w.params).In s.heap)
    (h : ∀ h' e u, s.heap.StaysIn h' → MadeE s.heap h' e u x → Q (.ref e) { s with heap := h' }) : wpAny (model prog w') A (call (.ref 41) [.str x t]) Q E s := by
  have hK : (fun (_ : OpenLaw) (_ : Params → Frag) => True) PySem.Challenge.rw_rx0047_01 Mine.hd0.heap_1 := by (k_fill; trivial)
  obtain ⟨hp, g, d, tk, os⟩ := s
  have e40 := X 40 _ (by k_is)
  have e41 := X 41 _ (by k_is)
  refine wpAny_call_exc_sub PySem.F.excBase_ValueError e41 (ns_at e40 rfl rfl) (by with_unfolding_all rfl) ?_ (by rw [sizeLine_eq]; show 1 ≤ _; decide)
  intro h' e m
  obtain ⟨u, h1, h2, h3⟩ := m.there
  exact h h' e u m.keeps ⟨m.new, h2, h1, _, h3⟩
end Mine
end
section
open PySem PySem.Spec PySem.Calls PyProof.Rows PySem.W
set_option maxHeartbeats 8000000
namespace Mine
theorem kw3 : True := by
  (k_with "om0" => ((fail_if_success first | have := @Mine.e9s1 | fail); (repeat (with_reducible rename _ ∧ _ => h9); clear h9); omega (config := {})))
  (k_with "isom0" => ((fail_if_success first | have := @Mine.e9s1 | fail); skip))
  trivial
theorem lit0 : Str.empty.length = 0 := rfl
theorem lit1 : (Str.ofString " (at ").length = 5 := by decide +kernel
theorem lit2 : (Str.ofString ")").length = 1 := by decide +kernel
theorem lit3 : (Str.ofString "line ").length = 5 := by decide +kernel
theorem lit4 : (Str.ofString ", column ").length = 9 := by decide +kernel
theorem lit5 : (Str.ofString "end of document").length = 15 := by decide +kernel
theorem lit6 : (Str.ofString "Expected ").length = 9 := by decide +kernel
theorem lit7 : (Str.ofString "Found invalid character ").length = 24 := by decide +kernel
end Mine
end
theorem Mine.e9s1 : True := trivial
open PySem PySem.Spec PySem.Calls PyProof.Rows PySem.W
open Mine
section
open PySem PySem.Spec PySem.Calls PyProof.Rows PySem.W
set_option maxHeartbeats 8000000
namespace Mine
section
variable {w : World} {base h₀ : Heap} {outer : List Env} {L : Addr} {m : Str → Option Value} {env : Env} {news : List (Addr × Obj)}
  {hd : Option Value} {dp un : Nat} {gd : Option (List Code)} {s : Shared} {Q E : Value → Shared → Prop}
theorem kw4 : True := by
  (k_with "9me len" => first | omega | simp only [List.length_append, List.length_cons, List.length_nil, List.length_take, List.length_drop] at *; omega)
  (k_with "9my le" => (simp only [Str.length_append, S_len, lit0, lit1, lit2, lit3, lit4, lit5, lit6, lit7, sizeLine_eq]; omega))
  (k_with "k_room" => (refine Nat.lt_of_lt_of_le (m := 600) ?_ (by decide); show (_ : Nat) < _; dsimp only [Around.deeper, ar, Around.in1]; omega))
  (k_with "9call builtin:len" => ((with_reducible show wpAny _ _ (call (Value.builtin "len") [Value.str (S _) _]) _ _ _); (first | with_reducible refine r_len (by walk_at "me len") ?_ | refine r_len (by walk_at "me len") ?_); intro _ _))
  (k_with "9call builtin:str.count" => ((with_reducible show wpAny _ _ (call (Value.builtin "str.count") [Value.str (S _) _, Value.str _ _, Value.int 0 _, Value.int _ _]) _ _ _); (first | with_reducible refine r_count0 (c := 10) (by decide) (by assumption) (by omega) ?_ | refine r_count0 (c := 10) (by decide) (by assumption) (by omega) ?_); intro _ _))
  (k_with "9joinParts" => ((first | with_reducible show wpAny _ _ (joinParts _ []) _ _ _ | with_reducible show wpAny _ _ (joinParts _ (evalEach [] _)) _ _ _); (try refine' joinParts_nilE ?_); refine' joinParts_nil ?_ ?le; case le => with_unfolding_all walk_at "my le"))
  (k_with "9le" => with_unfolding_all walk_at "my le")
  (k_with "size_fits" => with_unfolding_all walk_at "my le")
  (k_with "k_all" => first | exact List.forall_mem_nil _ | refine List.forall_mem_cons.mpr (And.intro ?_ ?_); k_ne; k_all)
  (k_with "9UnrEndW" => k_dflt ktu_end)
  (k_with "9callWith ref" => (k_here; k_dflt (((first | with_reducible refine callWith_K (by k_dflt k_asm) (by k_dflt k_is) ?_ | refine callWith_K (by k_dflt k_asm) (by k_dflt k_is) ?_)); k_whole)))
  (k_with "9eval Name" => (k_here; first | name_kind "local"; k_dflt ((refine' nameX_L (by k_asm) ?_ ?_ ?_ ?_); rotate_left 3; rfl; rfl; rotate_left 1; rfl; k_whole) | name_kind "globalImplicit"; first | name_is_builtin; k_dflt ((refine' nameX_B (by k_asm) (by k_asm) (by k_asm) ?_ ?_ ?_ ?_ ?_ ?_); rotate_left 5; rfl; rfl; rotate_left 1; k_is; boot_fast; decide; k_whole) | k_dflt ((refine' nameX_K (by k_asm) (by k_asm) (by k_asm) ?_ ?_ ?_ ?_); rotate_left 3; rfl; rfl; rotate_left 1; k_is; k_whole)))
  (k_with "9ite" => (k_closed; first | with_reducible refine ite_pos (by k_dflt decide) ?_ | with_reducible refine ite_neg (by k_dflt decide) ?_))
  (k_with "om0" => ((fail_if_success first | have := @Mine.e9s2 | fail); (repeat (with_reducible rename _ ∧ _ => h9); clear h9); omega (config := {})))
  (k_with "isom0" => ((fail_if_success first | have := @Mine.e9s2 | fail); skip))
  (k_with "9my le" => ((fail_if_success first | have := @Mine.e9s2 | fail); simp only [Str.length_append, S_len, lit0, lit1, lit2, lit3, lit4, lit5, lit6, lit7, sizeLine_eq]; first | k_extra "bd" | have hq1 := len_str_of_int (pos + 1); have hq2 := len_str_of_int (0 + 1); omega))
  trivial
noncomputable abbrev qcr : Str := Str.ofString "suffixed_err" ++ Str.ofString ".<locals>." ++ Str.ofString "coord_repr"
noncomputable abbrev tab3 (line col : Nat) (c : Addr) : Obj := tabObj #[rawInt line, rawInt col, .ref c]
noncomputable def HitIn (P line col : Nat) (qual : Str) (news : List (Addr × Obj)) : Prop := ∃ c' oc vs t, (P, tab3 line col c') ∈ news ∧ (c', oc) ∈ news ∧ oc.data = .fields vs ∧ vs[1]? = some (.str qual t)
noncomputable def HitAt (g0 : Heap) (P line col : Nat) (qual : Str) (h : Heap) : Prop := ∃ c' oc vs t, h.get? P = some (tab3 line col c') ∧ h.get? c' = some oc ∧ oc.data = .fields vs ∧ vs[1]? = some (.str qual t) ∧ g0.get? c' = none
theorem HitAt.mono {g0 g1 : Heap} {P line col : Nat} {qual : Str} {h : Heap} (k : g0.StaysIn g1) (x : HitAt g1 P line col qual h) : HitAt g0 P line col qual h := by
  obtain ⟨c', oc, vs, t, h1, h2, h3, h4, h5⟩ := x
  exact ⟨c', oc, vs, t, h1, h2, h3, h4, kts_none k h5⟩
noncomputable def sufx (n : Nat) (pos : Int) : Str := if pos < n then Str.empty ++ Str.ofString "line " ++ Str.ofString (toString ((0 : Int) + 1)) ++ Str.ofString ", column " ++ Str.ofString (toString (pos + 1)) else Str.ofString "end of document"
noncomputable def errMsg (msg : Str) (n : Nat) (pos : Int) : Str := Str.empty ++ msg ++ Str.ofString " (at " ++ sufx n pos ++ Str.ofString ")"
theorem made_back {G g h₁ h' : Heap} {tb : List (Addr × Obj)} {e t : Addr} {x : Str} (hg : g = hideAll G (tb.map (·.1))) (k : g.StaysIn h₁) (hk : ∀ p ∈ tb, h₁.get? p.1 ≠ none) (y : MadeE h₁ h' e t x) : MadeE G h' e t x := by
  have back : ∀ b, h₁.get? b = none → G.get? b = none := fun b hb => by
    cases q : G.get? b with
    | none => rfl
    | some o =>
      by_cases z : b ∈ tb.map (·.1)
      · obtain ⟨p, hp, rfl⟩ := List.mem_map.mp z
        exact absurd hb (hk p hp)
      · have := k _ _ (hg ▸ hideAll_get _ q z)
        rw [hb] at this; cases this
  exact ⟨back _ y.ne, back _ y.nt, y.ob, y.tu⟩
theorem errMsg_lt {x : Str} {n : Nat} {pos : Int} (h : pos < n) : errMsg x n pos = Str.empty ++ x ++ Str.ofString " (at " ++ (Str.empty ++ Str.ofString "line " ++ Str.ofString (toString ((0 : Int) + 1)) ++ Str.ofString ", column " ++ Str.ofString (toString (pos + 1))) ++ Str.ofString ")" := by
  rw [errMsg, sufx, if_pos h]
theorem errMsg_eq {x : Str} {n : Nat} {pos : Int} (h : pos = n) : errMsg x n pos = Str.empty ++ x ++ Str.ofString " (at " ++ Str.ofString "end of document" ++ Str.ofString ")" := by
  rw [errMsg, sufx, if_neg (by omega)]
theorem stays2 {G g h' : Heap} {tb : List (Addr × Obj)} {P : Addr} (hg : g = hideAll G (tb.map (·.1))) (ht : ∀ p ∈ tb, p.1 = P ∨ (G.get? p.1 = some p.2 ∧ h'.get? p.1 = some p.2)) (k : g.StaysIn h') : (hideAll G [P]).StaysIn h' := fun b o e => by
  have hb : b ≠ P := fun q => by
    rw [q, hideAll_none [P] (List.mem_singleton.mpr rfl)] at e; cases e
  have e := of_hideAll _ e
  by_cases z : b ∈ tb.map (·.1)
  · obtain ⟨p, hp, rfl⟩ := List.mem_map.mp z
    rcases ht p hp with q | ⟨q1, q2⟩
    · exact absurd q hb
    · rw [e] at q1; cases q1; exact q2
  · exact k _ _ (hg ▸ hideAll_get _ e z)
theorem hit_new {h₀ g h' h2 : Heap} {L' f c' : Addr} {x oc : Obj} {vs : Array Value} {q : Str} {t : Tok} (N' : News g L' h' [(f, x), (c', oc), (53, tabObj (#[] ++ #[rawInt (19 : Nat), rawInt (4 : Nat), .ref c']))]) (k1 : h'.StaysIn h2) (d1 : oc.data = .fields vs) (d2 : vs[1]? = some (.str q t)) (hq : q = qcr) (st : h₀.StaysIn g) : HitAt h₀ 53 19 4 qcr h2 :=
  ⟨c', oc, vs, t, k1 _ _ (N' _ (.tail _ (.tail _ (.head _)))).1, k1 _ _ (N' _ (.tail _ (.head _))).1, d1, hq ▸ d2, kts_none st (N' _ (.tail _ (.head _))).2.2⟩
theorem hit_old {h₀ g h' h2 : Heap} {L' f c' : Addr} {x oc : Obj} {vs : Array Value} {t : Tok} (N' : News g L' h' [(f, x), (53, tab3 19 4 c'), (c', oc)]) (k1 : h'.StaysIn h2) (d1 : oc.data = .fields vs) (d2 : vs[1]? = some (.str qcr t)) (st : h₀.StaysIn g) : HitAt h₀ 53 19 4 qcr h2 :=
  ⟨c', oc, vs, t, k1 _ _ (N' _ (.tail _ (.head _))).1, k1 _ _ (N' _ (.tail _ (.tail _ (.head _)))).1, d1, d2, kts_none st (N' _ (.tail _ (.tail _ (.head _)))).2.2⟩
theorem C_suff {src : List Nat} {msg : Str} {pos : Int} {t0 t1 t2 : Tok} (am : Amb w base h₀ L m env outer news s.heap) (hdp : dp < 500)
    (hC : CodeHd h₀ 57 53) (hm : (53, tabObj #[]) ∈ news ∨ HitIn 53 19 4 qcr news) (h0 : 0 ≤ pos) (h1 : pos ≤ src.length) (h2 : src.length ≤ 100) (h3 : msg.length ≤ 1000) (h4 : 10 ∉ src)
    (hret : ∀ h' e u tk, (hideAll s.heap [53]).StaysIn h' → HitAt h₀ 53 19 4 qcr h' → MadeE s.heap h' e u (errMsg msg src.length pos) → Q (.ref e) { s with heap := h', toks := tk }) :
    wpAny (MD w) (ar hd dp un gd env outer) (call (.ref 58) [.str (S src) t0, .int pos t1, .str msg t2]) Q E s := by
  (try revert hret)
  (try revert h4)
  (try revert h3)
  (try revert h2)
  (try revert h1)
  (try revert h0)
  (try revert hm)
  (try revert hC)
  (try revert hdp)
  (try revert am)
  (repeat ((rename (_ : Prop) => z9); (fail_if_success (have : Clm := z9)); revert z9))
  revert w base h₀ outer L m env news hd dp un gd s Q E src msg pos t0 t1 t2
  (refine no_implicit_lambda% (close21 64900 ?ne_z1 (R := ?R_z1) ((?nw_z1 : ∀ w base h₀ outer L m env news hd dp un gd s Q E src msg pos t0 t1 t2, ?R_z1 w base h₀ outer L m env news hd dp un gd s Q E src msg pos t0 t1 t2) (Mine.cl 64900 ?ne_z1 (un21 ?R_z1)).1.1.1.1.1 (Mine.cl 64900 ?ne_z1 (un21 ?R_z1)).1.1.1.1.2 (Mine.cl 64900 ?ne_z1 (un21 ?R_z1)).1.1.1.2 (Mine.cl 64900 ?ne_z1 (un21 ?R_z1)).1.1.2.1.1 (Mine.cl 64900 ?ne_z1 (un21 ?R_z1)).1.1.2.1.2 (Mine.cl 64900 ?ne_z1 (un21 ?R_z1)).1.1.2.2 (Mine.cl 64900 ?ne_z1 (un21 ?R_z1)).1.2.1.1.1 (Mine.cl 64900 ?ne_z1 (un21 ?R_z1)).1.2.1.1.2 (Mine.cl 64900 ?ne_z1 (un21 ?R_z1)).1.2.1.2 (Mine.cl 64900 ?ne_z1 (un21 ?R_z1)).1.2.2.1 (Mine.cl 64900 ?ne_z1 (un21 ?R_z1)).1.2.2.2 (Mine.cl 64900 ?ne_z1 (un21 ?R_z1)).2.1.1.1.1 (Mine.cl 64900 ?ne_z1 (un21 ?R_z1)).2.1.1.1.2 (Mine.cl 64900 ?ne_z1 (un21 ?R_z1)).2.1.1.2 (Mine.cl 64900 ?ne_z1 (un21 ?R_z1)).2.1.2.1 (Mine.cl 64900 ?ne_z1 (un21 ?R_z1)).2.1.2.2 (Mine.cl 64900 ?ne_z1 (un21 ?R_z1)).2.2.1.1.1 (Mine.cl 64900 ?ne_z1 (un21 ?R_z1)).2.2.1.1.2 (Mine.cl 64900 ?ne_z1 (un21 ?R_z1)).2.2.1.2 (Mine.cl 64900 ?ne_z1 (un21 ?R_z1)).2.2.2.1 (Mine.cl 64900 ?ne_z1 (un21 ?R_z1)).2.2.2.2)))
  (case ne_z1 => repeat (first | exact ⟨default⟩ | exact neS | exact neW | exact neA | refine ne2 ?_ ?_))
  intro w base h₀ outer L m env news hd dp un gd s Q E src msg pos t0 t1 t2
  (set_option tactic.hygienic false in intros)
  have mk9 : Clm := ⟨trivial⟩
  rcases hm with hm | ⟨c', oc, vs, t, hm, hm2, hd1, hd2⟩ <;> (rcases Int.lt_or_eq_of_le h1 with h1 | h1)
  · have htb : ∀ p ∈ [(53, tabObj #[])], p ∈ news := fun p hp => by rw [List.mem_singleton.mp hp]; exact hm
    have mk9 : Clm := ⟨trivial⟩
    obtain ⟨⟨A₀, B⟩, F, X, N, ⟨p, loose, mean, mg, mb, T⟩, hf, hke⟩ := am
    have XX := Frag.In.keeps X (Fr.keep F)
    have hK : (fun (_ : OpenLaw) (_ : Params → Frag) => True) PySem.Challenge.rw_rx0047_01 Mine.hd0.heap_1 := by (k_fill; trivial)
    refine' wpAny_call (enter (binds := [(Str.ofString "src", .str (S src) t0), (Str.ofString "pos", .int pos t1), (Str.ofString "msg", .str msg t2)]) B F N htb (Top.nolimit T) rfl hf hke ?ho_e3 ?hd_e3 ?hcd_e3 ?hroom_e3 ?hbind_e3 ?hloc_e3 ?h_e3 ?hcell_e3 ?hco_e3 ?hgen_e3 ?hk_e3)
    (case ho_e3 => exact XX _ _ (by k_is))
    (case hd_e3 => exact rfl)
    (case hcd_e3 => exact codeRec_of XX (by k_is))
    (case hroom_e3 => exact Nat.lt_of_lt_of_le hdp (by decide))
    (case hbind_e3 => first | exact BindsTo.of_eq rfl | exact binds_K XX rfl (by k_is) rfl rfl rfl)
    (case hloc_e3 => exact locs rfl)
    (case hcell_e3 => decide)
    (case hco_e3 => exact rfl)
    (case hgen_e3 => exact rfl)
    (case hk_e3 => exact rfl)
    intro g L' h₁ tk₁ hg F' N' B' st l1
    have X' := Frag.In.keeps X st
    have T' := Top.keeps T st
    (try k_lt l1)
    (try dsimp only)
    (try k_fold)
    clear hK
    (try revert T')
    (try revert X')
    (try revert l1)
    (try revert st)
    (try revert B')
    (try revert N')
    (try revert F')
    (try revert hg)
    (try revert hK)
    (try revert XX)
    (try revert hke)
    (try revert hf)
    (try revert T)
    (try revert N)
    (try revert X)
    (try revert F)
    (try revert B)
    (repeat ((rename (_ : Prop) => z9); (fail_if_success (have : Clm := z9)); revert z9))
    revert A₀ p loose mean mg mb g L' h₁ tk₁
    (refine no_implicit_lambda% (close10 12223 ?ne_e1 (R := ?R_e1) ((?nw_e1 : ∀ A₀ p loose mean mg mb g L' h₁ tk₁, ?R_e1 A₀ p loose mean mg mb g L' h₁ tk₁) (Mine.cl 12223 ?ne_e1 (un10 ?R_e1)).1.1.1.1 (Mine.cl 12223 ?ne_e1 (un10 ?R_e1)).1.1.1.2 (Mine.cl 12223 ?ne_e1 (un10 ?R_e1)).1.1.2 (Mine.cl 12223 ?ne_e1 (un10 ?R_e1)).1.2.1 (Mine.cl 12223 ?ne_e1 (un10 ?R_e1)).1.2.2 (Mine.cl 12223 ?ne_e1 (un10 ?R_e1)).2.1.1.1 (Mine.cl 12223 ?ne_e1 (un10 ?R_e1)).2.1.1.2 (Mine.cl 12223 ?ne_e1 (un10 ?R_e1)).2.1.2 (Mine.cl 12223 ?ne_e1 (un10 ?R_e1)).2.2.1 (Mine.cl 12223 ?ne_e1 (un10 ?R_e1)).2.2.2)))
    (case ne_e1 => repeat (first | exact ⟨default⟩ | exact neS | exact neW | exact neA | refine ne2 ?_ ?_))
    intro A₀ p loose mean mg mb g L' h₁ tk₁
    (set_option tactic.hygienic false in intros)
    have mk9 : Clm := ⟨trivial⟩
    have hC' := CodeHd.keeps hC st
    have hp1 : (Str.ofString (toString (pos + 1))).length ≤ 103 := by
      have := len_str_of_int (pos + 1)
      omega
    have hp2 : (Str.ofString (toString ((0 : Int) + 1))).length ≤ 3 := by
      have := len_str_of_int (0 + 1)
      omega
    k_steps
    walk_at "nm"
    refine r_mkerr (w := w) (Frag.In.keeps X' (Fr.keep F')) fun h2 e u k1 me => ?_
    refine hret _ e u _ (stays2 hg (fun p hp => .inl (by rw [List.mem_singleton.mp hp])) (fun b o q => k1 _ _ (F'.keep _ _ q))) (hit_new N' k1 (by assumption) (by assumption) (by with_unfolding_all rfl) st) ?_
    rw [errMsg_lt h1]
    exact made_back hg F'.keep (fun p hp => by rw [List.mem_singleton.mp hp, (N' (53, _) (.tail _ (.tail _ (.head _)))).1]; exact Option.some_ne_none _) me
  · have htb : ∀ p ∈ [(53, tabObj #[])], p ∈ news := fun p hp => by rw [List.mem_singleton.mp hp]; exact hm
    have mk9 : Clm := ⟨trivial⟩
    obtain ⟨⟨A₀, B⟩, F, X, N, ⟨p, loose, mean, mg, mb, T⟩, hf, hke⟩ := am
    have XX := Frag.In.keeps X (Fr.keep F)
    have hK : (fun (_ : OpenLaw) (_ : Params → Frag) => True) PySem.Challenge.rw_rx0047_01 Mine.hd0.heap_1 := by (k_fill; trivial)
    refine' wpAny_call (enter (binds := [(Str.ofString "src", .str (S src) t0), (Str.ofString "pos", .int pos t1), (Str.ofString "msg", .str msg t2)]) B F N htb (Top.nolimit T) rfl hf hke ?ho_e4 ?hd_e4 ?hcd_e4 ?hroom_e4 ?hbind_e4 ?hloc_e4 ?h_e4 ?hcell_e4 ?hco_e4 ?hgen_e4 ?hk_e4)
    (case ho_e4 => exact XX _ _ (by k_is))
    (case hd_e4 => exact rfl)
    (case hcd_e4 => exact codeRec_of XX (by k_is))
    (case hroom_e4 => exact Nat.lt_of_lt_of_le hdp (by decide))
    (case hbind_e4 => first | exact BindsTo.of_eq rfl | exact binds_K XX rfl (by k_is) rfl rfl rfl)
    (case hloc_e4 => exact locs rfl)
    (case hcell_e4 => decide)
    (case hco_e4 => exact rfl)
    (case hgen_e4 => exact rfl)
    (case hk_e4 => exact rfl)
    intro g L' h₁ tk₁ hg F' N' B' st l1
    have X' := Frag.In.keeps X st
    have T' := Top.keeps T st
    (try k_lt l1)
    (try dsimp only)
    (try k_fold)
    clear hK
    (try revert T')
    (try revert X')
    (try revert l1)
    (try revert st)
    (try revert B')
    (try revert N')
    (try revert F')
    (try revert hg)
    (try revert hK)
    (try revert XX)
    (try revert hke)
    (try revert hf)
    (try revert T)
    (try revert N)
    (try revert X)
    (try revert F)
    (try revert B)
    (repeat ((rename (_ : Prop) => z9); (fail_if_success (have : Clm := z9)); revert z9))
    revert A₀ p loose mean mg mb g L' h₁ tk₁
    (refine no_implicit_lambda% (close10 37148 ?ne_e2 (R := ?R_e2) ((?nw_e2 : ∀ A₀ p loose mean mg mb g L' h₁ tk₁, ?R_e2 A₀ p loose mean mg mb g L' h₁ tk₁) (Mine.cl 37148 ?ne_e2 (un10 ?R_e2)).1.1.1.1 (Mine.cl 37148 ?ne_e2 (un10 ?R_e2)).1.1.1.2 (Mine.cl 37148 ?ne_e2 (un10 ?R_e2)).1.1.2 (Mine.cl 37148 ?ne_e2 (un10 ?R_e2)).1.2.1 (Mine.cl 37148 ?ne_e2 (un10 ?R_e2)).1.2.2 (Mine.cl 37148 ?ne_e2 (un10 ?R_e2)).2.1.1.1 (Mine.cl 37148 ?ne_e2 (un10 ?R_e2)).2.1.1.2 (Mine.cl 37148 ?ne_e2 (un10 ?R_e2)).2.1.2 (Mine.cl 37148 ?ne_e2 (un10 ?R_e2)).2.2.1 (Mine.cl 37148 ?ne_e2 (un10 ?R_e2)).2.2.2)))
    (case ne_e2 => repeat (first | exact ⟨default⟩ | exact neS | exact neW | exact neA | refine ne2 ?_ ?_))
    intro A₀ p loose mean mg mb g L' h₁ tk₁
    (set_option tactic.hygienic false in intros)
    have mk9 : Clm := ⟨trivial⟩
    have hC' := CodeHd.keeps hC st
    k_steps
    walk_at "nm"
    refine r_mkerr (w := w) (Frag.In.keeps X' (Fr.keep F')) fun h2 e u k1 me => ?_
    refine hret _ e u _ (stays2 hg (fun p hp => .inl (by rw [List.mem_singleton.mp hp])) (fun b o q => k1 _ _ (F'.keep _ _ q))) (hit_new N' k1 (by assumption) (by assumption) (by with_unfolding_all rfl) st) ?_
    rw [errMsg_eq h1]
    exact made_back hg F'.keep (fun p hp => by rw [List.mem_singleton.mp hp, (N' (53, _) (.tail _ (.tail _ (.head _)))).1]; exact Option.some_ne_none _) me
  · skip
    (try revert h1)
    (try revert hd2)
    (try revert hd1)
    (try revert hm2)
    (try revert hm)
    (repeat ((rename (_ : Prop) => z9); (fail_if_success (have : Clm := z9)); revert z9))
    revert c' oc vs t
    (refine no_implicit_lambda% (close4 10283 ?ne_q3 (R := ?R_q3) ((?nw_q3 : ∀ c' oc vs t, ?R_q3 c' oc vs t) (Mine.cl 10283 ?ne_q3 (un4 ?R_q3)).1.1 (Mine.cl 10283 ?ne_q3 (un4 ?R_q3)).1.2 (Mine.cl 10283 ?ne_q3 (un4 ?R_q3)).2.1 (Mine.cl 10283 ?ne_q3 (un4 ?R_q3)).2.2)))
    (case ne_q3 => repeat (first | exact ⟨default⟩ | exact neS | exact neW | exact neA | refine ne2 ?_ ?_))
    intro c' oc vs t
    (set_option tactic.hygienic false in intros)
    have mk9 : Clm := ⟨trivial⟩
    have h1 := h1_1
    have htb : ∀ p ∈ [(53, tab3 19 4 c'), (c', oc)], p ∈ news := List.forall_mem_cons.mpr ⟨hm, List.forall_mem_cons.mpr ⟨hm2, List.forall_mem_nil _⟩⟩
    have mk9 : Clm := ⟨trivial⟩
    obtain ⟨⟨A₀, B⟩, F, X, N, ⟨p, loose, mean, mg, mb, T⟩, hf, hke⟩ := am
    have XX := Frag.In.keeps X (Fr.keep F)
    have hK : (fun (_ : OpenLaw) (_ : Params → Frag) => True) PySem.Challenge.rw_rx0047_01 Mine.hd0.heap_1 := by (k_fill; trivial)
    refine' wpAny_call (enter (binds := [(Str.ofString "src", .str (S src) t0), (Str.ofString "pos", .int pos t1), (Str.ofString "msg", .str msg t2)]) B F N htb (Top.nolimit T) rfl hf hke ?ho_e5 ?hd_e5 ?hcd_e5 ?hroom_e5 ?hbind_e5 ?hloc_e5 ?h_e5 ?hcell_e5 ?hco_e5 ?hgen_e5 ?hk_e5)
    (case ho_e5 => exact XX _ _ (by k_is))
    (case hd_e5 => exact rfl)
    (case hcd_e5 => exact codeRec_of XX (by k_is))
    (case hroom_e5 => exact Nat.lt_of_lt_of_le hdp (by decide))
    (case hbind_e5 => first | exact BindsTo.of_eq rfl | exact binds_K XX rfl (by k_is) rfl rfl rfl)
    (case hloc_e5 => exact locs rfl)
    (case hcell_e5 => decide)
    (case hco_e5 => exact rfl)
    (case hgen_e5 => exact rfl)
    (case hk_e5 => exact rfl)
    intro g L' h₁ tk₁ hg F' N' B' st l1
    have X' := Frag.In.keeps X st
    have T' := Top.keeps T st
    (try k_lt l1)
    (try dsimp only)
    (try k_fold)
    clear hK
    (try revert T')
    (try revert X')
    (try revert l1)
    (try revert st)
    (try revert B')
    (try revert N')
    (try revert F')
    (try revert hg)
    (try revert hK)
    (try revert XX)
    (try revert hke)
    (try revert hf)
    (try revert T)
    (try revert N)
    (try revert X)
    (try revert F)
    (try revert B)
    (repeat ((rename (_ : Prop) => z9); (fail_if_success (have : Clm := z9)); revert z9))
    revert A₀ p loose mean mg mb g L' h₁ tk₁
    (refine no_implicit_lambda% (close10 15452 ?ne_e4 (R := ?R_e4) ((?nw_e4 : ∀ A₀ p loose mean mg mb g L' h₁ tk₁, ?R_e4 A₀ p loose mean mg mb g L' h₁ tk₁) (Mine.cl 15452 ?ne_e4 (un10 ?R_e4)).1.1.1.1 (Mine.cl 15452 ?ne_e4 (un10 ?R_e4)).1.1.1.2 (Mine.cl 15452 ?ne_e4 (un10 ?R_e4)).1.1.2 (Mine.cl 15452 ?ne_e4 (un10 ?R_e4)).1.2.1 (Mine.cl 15452 ?ne_e4 (un10 ?R_e4)).1.2.2 (Mine.cl 15452 ?ne_e4 (un10 ?R_e4)).2.1.1.1 (Mine.cl 15452 ?ne_e4 (un10 ?R_e4)).2.1.1.2 (Mine.cl 15452 ?ne_e4 (un10 ?R_e4)).2.1.2 (Mine.cl 15452 ?ne_e4 (un10 ?R_e4)).2.2.1 (Mine.cl 15452 ?ne_e4 (un10 ?R_e4)).2.2.2)))
    (case ne_e4 => repeat (first | exact ⟨default⟩ | exact neS | exact neW | exact neA | refine ne2 ?_ ?_))
    intro A₀ p loose mean mg mb g L' h₁ tk₁
    (set_option tactic.hygienic false in intros)
    have mk9 : Clm := ⟨trivial⟩
    have hC' := CodeHd.keeps hC st
    have hp1 : (Str.ofString (toString (pos + 1))).length ≤ 103 := by
      have := len_str_of_int (pos + 1)
      omega
    have hp2 : (Str.ofString (toString ((0 : Int) + 1))).length ≤ 3 := by
      have := len_str_of_int (0 + 1)
      omega
    k_steps
    walk_at "nm"
    refine r_mkerr (w := w) (Frag.In.keeps X' (Fr.keep F')) fun h2 e u k1 me => ?_
    refine hret _ e u _ (stays2 hg (List.forall_mem_cons.mpr ⟨.inl rfl, List.forall_mem_cons.mpr ⟨.inr ⟨(N _ hm2).1, k1 _ _ (N' (c', oc) (.tail _ (.tail _ (.head _)))).1⟩, List.forall_mem_nil _⟩⟩) (fun b o q => k1 _ _ (F'.keep _ _ q))) (hit_old N' k1 hd1 hd2 st) ?_
    rw [errMsg_lt h1]
    exact made_back hg F'.keep (List.forall_mem_cons.mpr ⟨by rw [(N' _ (.tail _ (.head _))).1]; exact Option.some_ne_none _, List.forall_mem_cons.mpr ⟨by rw [(N' _ (.tail _ (.tail _ (.head _)))).1]; exact Option.some_ne_none _, List.forall_mem_nil _⟩⟩) me
  · skip
    (try revert h1)
    (try revert hd2)
    (try revert hd1)
    (try revert hm2)
    (try revert hm)
    (repeat ((rename (_ : Prop) => z9); (fail_if_success (have : Clm := z9)); revert z9))
    revert c' oc vs t
    (refine no_implicit_lambda% (close4 38877 ?ne_q5 (R := ?R_q5) ((?nw_q5 : ∀ c' oc vs t, ?R_q5 c' oc vs t) (Mine.cl 38877 ?ne_q5 (un4 ?R_q5)).1.1 (Mine.cl 38877 ?ne_q5 (un4 ?R_q5)).1.2 (Mine.cl 38877 ?ne_q5 (un4 ?R_q5)).2.1 (Mine.cl 38877 ?ne_q5 (un4 ?R_q5)).2.2)))
    (case ne_q5 => repeat (first | exact ⟨default⟩ | exact neS | exact neW | exact neA | refine ne2 ?_ ?_))
    intro c' oc vs t
    (set_option tactic.hygienic false in intros)
    have mk9 : Clm := ⟨trivial⟩
    have h1 := h1_1
    have htb : ∀ p ∈ [(53, tab3 19 4 c'), (c', oc)], p ∈ news := List.forall_mem_cons.mpr ⟨hm, List.forall_mem_cons.mpr ⟨hm2, List.forall_mem_nil _⟩⟩
    have mk9 : Clm := ⟨trivial⟩
    obtain ⟨⟨A₀, B⟩, F, X, N, ⟨p, loose, mean, mg, mb, T⟩, hf, hke⟩ := am
    have XX := Frag.In.keeps X (Fr.keep F)
    have hK : (fun (_ : OpenLaw) (_ : Params → Frag) => True) PySem.Challenge.rw_rx0047_01 Mine.hd0.heap_1 := by (k_fill; trivial)
    refine' wpAny_call (enter (binds := [(Str.ofString "src", .str (S src) t0), (Str.ofString "pos", .int pos t1), (Str.ofString "msg", .str msg t2)]) B F N htb (Top.nolimit T) rfl hf hke ?ho_e6 ?hd_e6 ?hcd_e6 ?hroom_e6 ?hbind_e6 ?hloc_e6 ?h_e6 ?hcell_e6 ?hco_e6 ?hgen_e6 ?hk_e6)
    (case ho_e6 => exact XX _ _ (by k_is))
    (case hd_e6 => exact rfl)
    (case hcd_e6 => exact codeRec_of XX (by k_is))
    (case hroom_e6 => exact Nat.lt_of_lt_of_le hdp (by decide))
    (case hbind_e6 => first | exact BindsTo.of_eq rfl | exact binds_K XX rfl (by k_is) rfl rfl rfl)
    (case hloc_e6 => exact locs rfl)
    (case hcell_e6 => decide)
    (case hco_e6 => exact rfl)
    (case hgen_e6 => exact rfl)
    (case hk_e6 => exact rfl)
    intro g L' h₁ tk₁ hg F' N' B' st l1
    have X' := Frag.In.keeps X st
    have T' := Top.keeps T st
    (try k_lt l1)
    (try dsimp only)
    (try k_fold)
    clear hK
    (try revert T')
    (try revert X')
    (try revert l1)
    (try revert st)
    (try revert B')
    (try revert N')
    (try revert F')
    (try revert hg)
    (try revert hK)
    (try revert XX)
    (try revert hke)
    (try revert hf)
    (try revert T)
    (try revert N)
    (try revert X)
    (try revert F)
    (try revert B)
    (repeat ((rename (_ : Prop) => z9); (fail_if_success (have : Clm := z9)); revert z9))
    revert A₀ p loose mean mg mb g L' h₁ tk₁
    (refine no_implicit_lambda% (close10 51372 ?ne_e6 (R := ?R_e6) ((?nw_e6 : ∀ A₀ p loose mean mg mb g L' h₁ tk₁, ?R_e6 A₀ p loose mean mg mb g L' h₁ tk₁) (Mine.cl 51372 ?ne_e6 (un10 ?R_e6)).1.1.1.1 (Mine.cl 51372 ?ne_e6 (un10 ?R_e6)).1.1.1.2 (Mine.cl 51372 ?ne_e6 (un10 ?R_e6)).1.1.2 (Mine.cl 51372 ?ne_e6 (un10 ?R_e6)).1.2.1 (Mine.cl 51372 ?ne_e6 (un10 ?R_e6)).1.2.2 (Mine.cl 51372 ?ne_e6 (un10 ?R_e6)).2.1.1.1 (Mine.cl 51372 ?ne_e6 (un10 ?R_e6)).2.1.1.2 (Mine.cl 51372 ?ne_e6 (un10 ?R_e6)).2.1.2 (Mine.cl 51372 ?ne_e6 (un10 ?R_e6)).2.2.1 (Mine.cl 51372 ?ne_e6 (un10 ?R_e6)).2.2.2)))
    (case ne_e6 => repeat (first | exact ⟨default⟩ | exact neS | exact neW | exact neA | refine ne2 ?_ ?_))
    intro A₀ p loose mean mg mb g L' h₁ tk₁
    (set_option tactic.hygienic false in intros)
    have mk9 : Clm := ⟨trivial⟩
    have hC' := CodeHd.keeps hC st
    k_steps
    walk_at "nm"
    refine r_mkerr (w := w) (Frag.In.keeps X' (Fr.keep F')) fun h2 e u k1 me => ?_
    refine hret _ e u _ (stays2 hg (List.forall_mem_cons.mpr ⟨.inl rfl, List.forall_mem_cons.mpr ⟨.inr ⟨(N _ hm2).1, k1 _ _ (N' (c', oc) (.tail _ (.tail _ (.head _)))).1⟩, List.forall_mem_nil _⟩⟩) (fun b o q => k1 _ _ (F'.keep _ _ q))) (hit_old N' k1 hd1 hd2 st) ?_
    rw [errMsg_eq h1]
    exact made_back hg F'.keep (List.forall_mem_cons.mpr ⟨by rw [(N' _ (.tail _ (.head _))).1]; exact Option.some_ne_none _, List.forall_mem_cons.mpr ⟨by rw [(N' _ (.tail _ (.tail _ (.head _)))).1]; exact Option.some_ne_none _, List.forall_mem_nil _⟩⟩) me
end
end Mine
end
theorem Mine.e9s2 : True := trivial
section
open PySem PySem.Spec PySem.Calls PyProof.Rows PySem.W
set_option maxHeartbeats 8000000
namespace Mine
theorem fz_mro : mroOf (.type "frozenset") = pure [.type "frozenset", .type "object"] := by rw [mroOf_type]; kernel_rfl
theorem fz_lookup_new : typeLookup (.type "frozenset") "__new__" = pure (some (.builtin "frozenset.__new__")) := by rw [typeLookup_type, builtinLookup_eq_fast]; kernel_rfl
theorem fz_init : Slot "frozenset" "__init__" "object.__init__" :=
  .of (owner := "object") (n := "__init__") (by rw [typeLookup_type, builtinLookup_eq_fast]; kernel_rfl) (by decide +kernel) (by decide +kernel) (by decide +kernel)
    (by first | exact .inl (by decide +kernel) | exact .inr (by decide +kernel)) (by rw [isSubtype_type]; kernel_rfl)
theorem fz_called : TypeCalled "frozenset" "frozenset.__new__" "object.__init__" :=
  ⟨by decide +kernel, by decide +kernel, ⟨_, _, fz_mro⟩, madeBy_type fz_mro fz_lookup_new (by decide +kernel), by decide +kernel, by rw [isSubtype_type]; kernel_rfl, fz_init⟩
theorem fz_typeCall (a : Value) : checkTypeCall "frozenset" ⟨[a], []⟩ = pure () := by kernel_rfl
theorem fz_newCall (a : Value) : checkBuiltinCall "frozenset.__new__" ⟨[.type "frozenset", a], []⟩ = pure () := by kernel_rfl
theorem fz_entry_new : entryFor table "frozenset.__new__" = some Builtin.«frozenset.__new__» := entryFor_of_tree (by kernel_rfl)
theorem fz_contains : Slot "frozenset" "__contains__" "frozenset.__contains__" :=
  .of (owner := "frozenset") (n := "__contains__") (by rw [typeLookup_type, builtinLookup_eq_fast]; kernel_rfl) (by decide +kernel) (by decide +kernel) (by decide +kernel)
    (by first | exact .inl (by decide +kernel) | exact .inr (by decide +kernel)) (by rw [isSubtype_type]; kernel_rfl)
theorem fz_entry_contains : entryFor table "frozenset.__contains__" = some Builtin.«frozenset.__contains__» := entryFor_of_tree (by kernel_rfl)
theorem fz_disj : Slot "frozenset" "isdisjoint" "frozenset.isdisjoint" :=
  .of (owner := "frozenset") (n := "isdisjoint") (by rw [typeLookup_type, builtinLookup_eq_fast]; kernel_rfl) (by decide +kernel) (by decide +kernel) (by decide +kernel)
    (by first | exact .inl (by decide +kernel) | exact .inr (by decide +kernel)) (by rw [isSubtype_type]; kernel_rfl)
theorem fz_type_disj : typeOf (.builtin "frozenset.isdisjoint") = pure (.type "method_descriptor") := by show builtinType _ = _; rw [builtinType_eq_fast]; kernel_rfl
theorem fz_entry_disj : entryFor table "frozenset.isdisjoint" = some Builtin.«frozenset.isdisjoint» := entryFor_of_tree (by kernel_rfl)
theorem fz_entry_loop : entryFor table "frozenset.isdisjoint.loop" = some Builtin.«frozenset.isdisjoint.loop» := entryFor_of_tree (by kernel_rfl)
theorem fz_plain_loop : plainId "frozenset.isdisjoint.loop" = true := by decide +kernel
theorem fz_owner : Manifest.owners.lookup (String.ofList ['t', 'e', 's', 'n', 'e', 'z', 'o', 'r', 'f'].reverse) = some Manifest.sig_frozenset := by kernel_rfl
theorem fz_args_disj (a b : Value) : argsOk "frozenset.isdisjoint" ⟨[a, b], []⟩ := by
  unfold argsOk; rw [signature?_of (id := "frozenset.isdisjoint") (n := ['t', 'n', 'i', 'o', 'j', 's', 'i', 'd', 's', 'i']) (o := ['t', 'e', 's', 'n', 'e', 'z', 'o', 'r', 'f']) (by kernel_rfl) fz_owner]; kernel_rfl
theorem fz_args_contains (a b : Value) : argsOk "frozenset.__contains__" ⟨[a, b], []⟩ := by
  unfold argsOk; rw [signature?_of (id := "frozenset.__contains__") (n := ['_', '_', 's', 'n', 'i', 'a', 't', 'n', 'o', 'c', '_', '_']) (o := ['t', 'e', 's', 'n', 'e', 'z', 'o', 'r', 'f']) (by kernel_rfl) fz_owner]; kernel_rfl
theorem fz_sub : isSubtype (.type "frozenset") (.type "frozenset") = pure true := by rw [isSubtype_type]; kernel_rfl
theorem fz_str1 : isSubtype (.type "str") (.type "set") = pure false := by rw [isSubtype_type]; kernel_rfl
theorem fz_str2 : isSubtype (.type "str") (.type "frozenset") = pure false := by rw [isSubtype_type]; kernel_rfl
theorem fz_plainAttrs : PlainAttrs "frozenset" :=
  ⟨⟨"object.__getattribute__", by rw [typeLookup_type, builtinLookup_eq_fast]; kernel_rfl, by decide +kernel⟩, by rw [typeLookup_type, builtinLookup_eq_fast]; kernel_rfl⟩
noncomputable def FObj (prog : Program) (w : World) (o : Obj) : Prop := ∃ es ep t, (o.cls = .type "frozenset" ∧ o.dict = none) ∧ o.data = .set es ep t ∧ ElemsOf (strKind prog w) es.toList ∧
  (∀ k, k = S [35] ↔ ∃ e ∈ es.toList, (strKind prog w).is k e.2 = true) ∧ es.size < scanBound ∧ t.fits es.size = true
section
variable {prog : Program} {w : World} {A : Around} {E : Value → Shared → Prop} {s : Shared} {b : Addr} {o : Obj}
theorem fz_find {x : Str} {t : Tok} {Q : Option Nat → Shared → Prop} (hb : s.heap.get? b = some o) (ho : FObj prog w o)
    (h : ∀ r : Option Nat, r.isSome = decide (x = S [35]) → Q r s) : wpAny (model prog w) A (setFind b (.str x t) ((strKind prog w).hash x)) Q E s := by
  obtain ⟨es, ep, tb, _, hd, hel, hmem, hsz, hf⟩ := ho
  have hkey := strKind_is prog w x t
  unfold setFind setFindIn
  refine wpAny_bind (wpAny_setState_of hb hd hf ?_)
  dsimp only
  rw [byScan_of (knd := strKind prog w) rfl hsz hel, if_pos rfl]
  refine wpAny_bind (wpAny_rule (wpAny_bind (wpAny_setScan_of hkey hb hd hf hel ?_)))
  cases hr : List.findIdx? (fun e => (strKind prog w).is x e.2) es.toList with
  | none =>
    refine wpAny_pure (h none ?_)
    rw [Option.isSome_none, eq_comm, decide_eq_false_iff_not, hmem x]
    rintro ⟨e, he, hp⟩
    have := List.findIdx?_eq_none_iff.mp hr e he
    rw [hp] at this; cases this
  | some j =>
    refine wpAny_pure (h (some (0 + j)) ?_)
    obtain ⟨hj, hp, _⟩ := List.findIdx?_eq_some_iff_getElem.mp hr
    rw [Option.isSome_some, eq_comm, decide_eq_true_eq, hmem x]
    exact ⟨_, List.getElem_mem hj, hp⟩
theorem fz_has {x : Str} {t : Tok} {Q : Bool → Shared → Prop} (hb : s.heap.get? b = some o) (ho : FObj prog w o)
    (h : Q (decide (x = S [35])) { s with toks := s.toks + 1 }) : wpAny (model prog w) A (setContains b (.str x t)) Q E s := by
  unfold setContains
  refine wpAny_holding (wpAny_bind ((strKind prog w).pyHash (k := x) (strKind_is prog w x t) (wpAny_bind (fz_find (s := { s with toks := s.toks + 1 }) hb ho fun r hr => wpAny_pure ?_))))
  rw [hr]; exact h
theorem fz_notin {x : Str} {t : Tok} {Q : Value → Shared → Prop} (hb : s.heap.get? b = some o) (ho : FObj prog w o)
    (h : Q (.bool (!decide (x = S [35]))) { s with toks := s.toks + 1 }) : wpAny (model prog w) A (compareOp .NotIn (.str x t) (.ref b)) Q E s := by
  have hT : s.TypeIs (.ref b) "frozenset" := ⟨o, hb, by obtain ⟨_, _, _, h, _⟩ := ho; exact h.1⟩
  show wpAny _ _ (do return .bool (!(← contains (.ref b) (.str x t)))) Q E s
  refine wpAny_bind ?_
  unfold contains
  try with_reducible refine wpAny_holding ?_
  refine wpAny_bind (wpAny_specialOf hT fz_contains.lookup ?_)
  show wpAny _ _ (if (some (Value.builtin "frozenset.__contains__") == some Value.none) = true then _ else _) _ E s
  rw [if_neg (by rw [beq_builtin_none]; exact Bool.false_ne_true)]
  refine wpAny_bind (wpAny_callSpecialUnlessNone?_slot (name := Str.ofString "__contains__") hT fz_contains
    (wpAny_call_entry fz_contains hT fz_entry_contains ?_ (fz_args_contains _ _)))
  unfold Builtin.«frozenset.__contains__» Builtin.Frozenset.oneOther
  simp only [List.isEmpty_nil, bind_assoc]
  unfold Builtin.Frozenset.addrOf Builtin.Frozenset.withSetAsKey
  refine wpAny_bind (wpAny_pure ?_)
  try dsimp only
  refine wpAny_bind (wpAny_pure ?_)
  try dsimp only
  refine wpAny_bind (wpAny_tryCatch (fz_has hb ho ?_))
  exact wpAny_pure ⟨_, rfl, wpAny_truthy_bool (wpAny_pure h)⟩
theorem fz_get {pl : Sem Bool} {Q : Value × List Value → Shared → Prop} (hb : s.heap.get? b = some o) (ho : FObj prog w o) (h : Q (.builtin "frozenset.isdisjoint", [.ref b]) s) :
    wpAny (model prog w) A (getMethod (.ref b) "isdisjoint" pl) Q E s := by
  obtain ⟨_, _, _, hc, _⟩ := ho
  exact getMethod_builtin ⟨o, hb, hc.1⟩ fz_plainAttrs fz_disj fz_type_disj (fun a e => by cases e; exact ⟨o, hb, hc.2⟩) h
theorem fz_loop {I : Addr} {l : List Nat} {St : Nat → Heap → Prop} {R : Result → Shared → Prop} (W : Walks prog w A.in1 I [I] [I] l.length (SignAt (S l)) St) (hbI : b ≠ I) (ho : FObj prog w o) :
    ∀ (k i : Nat) (s : Shared), l.length - i = k → i ≤ l.length → St i s.heap → s.heap.get? b = some o →
      (∀ h' tk, (∀ c ob, c ≠ I → s.heap.get? c = some ob → h'.get? c = some ob) → R (.ok (.ret (.bool (!(l.drop i).contains 35)))) { s with heap := h', toks := tk }) →
      codeAny (model prog w) A (.builtin "frozenset.isdisjoint.loop" ⟨[.ref b, .ref I], []⟩) R s := by
  intro k
  induction k with
  | zero =>
    intro i s hk hi hst hb hR
    have hin : i = l.length := stp2 hk hi
    subst hin
    refine codeAny_builtin fz_entry_loop ?_
    rw [Around.under_plainId fz_plain_loop _]
    show wpAny _ A.in1 (pyNext (.ref I) >>= _) _ _ s
    refine wpAny_bind (W.done s _ _ hst fun h' tk hm => ?_)
    have := hR h' tk fun c ob hc => hm c ob (by simpa using hc)
    rw [List.drop_length] at this
    exact wpAny_pure this
  | succ k ih =>
    intro i s hk hi hst hb hR
    have hlt : i < l.length := stp1 hk
    refine codeAny_builtin fz_entry_loop ?_
    rw [Around.under_plainId fz_plain_loop _]
    show wpAny _ A.in1 (pyNext (.ref I) >>= _) _ _ s
    refine wpAny_bind (W.item i s _ _ hlt hst fun v h' tk hP hst' hm => ?_)
    obtain ⟨c, u, hc, rfl⟩ := hP
    have hc : c = l[i] := by
      have : l[i]? = some c := by simpa using hc
      rw [List.getElem?_eq_getElem hlt] at this; exact (Option.some.inj this).symm
    subst hc
    have hb' : h'.get? b = some o := hm b o (by simpa using hbI) hb
    show wpAny _ A.in1 (holding [Value.str (S [l[i]]) u] (setContains b (.str (S [l[i]]) u)) >>= _) _ _ _
    refine wpAny_bind (wpAny_holding (fz_has hb' ho ?_))
    have hd : l.drop i = l[i] :: l.drop (i + 1) := List.drop_eq_getElem_cons hlt
    by_cases he : l[i] = 35
    · have e : decide (S [l[i]] = S [35]) = true := by rw [he]; exact decide_eq_true rfl
      rw [e, if_pos rfl]
      have := hR h' (tk + 1) fun c ob hc => hm c ob (by simpa using hc)
      rw [hd, List.contains_cons, he] at this
      exact wpAny_pure this
    · have e : decide (S [l[i]] = S [35]) = false := by
        refine decide_eq_false fun q => he ?_
        have := S_inj q
        simpa using this
      rw [e, if_neg Bool.false_ne_true]
      refine wpAny_pure ⟨plainId_quiet fz_plain_loop _, ih (i + 1) _ (stp0 hk) hlt (W.frame _ _ _ hst' fun b _ o e => e) hb' fun h'' tk'' hm'' => ?_⟩
      have := hR h'' tk'' fun c ob hc e => hm'' c ob hc (hm c ob (by simpa using hc) e)
      rw [hd, List.contains_cons, show (35 == l[i]) = false from by simpa using fun q => he q.symm, Bool.false_or] at this
      exact this
theorem fz_disjoint {l : List Nat} {t : Tok} {Q : Value → Shared → Prop} (hA : A.handled = none) (hb : s.heap.get? b = some o) (ho : FObj prog w o)
    (h : ∀ h' tk, s.heap.StaysIn h' → Q (.bool (!l.contains 35)) { s with heap := h', toks := tk }) :
    wpAny (model prog w) A (call (.builtin "frozenset.isdisjoint") [.ref b, .str (S l) t]) Q E s := by
  have hT : s.TypeIs (.ref b) "frozenset" := ⟨o, hb, by obtain ⟨_, _, _, h, _⟩ := ho; exact h.1⟩
  have hTs : s.TypeIs (.str (S l) t) "str" := rfl
  refine wpAny_call (codeAny_call_builtin fz_disj.plain fz_entry_disj (fz_disj.check _ _ _ _ _ _ _ _ hT (fz_args_disj _ _) ?_))
  unfold Builtin.«frozenset.isdisjoint» Builtin.Frozenset.oneOther
  simp only [List.isEmpty_nil, bind_assoc]
  unfold Builtin.Frozenset.addrOf
  refine wpAny_bind (wpAny_pure ?_)
  try dsimp only
  refine wpAny_bind (wpAny_pure ?_)
  try dsimp only
  rw [if_neg (by simp)]
  refine wpAny_bind (wpAny_typeOf hTs ?_)
  rw [if_neg (by simp)]
  refine wpAny_bind (wpAny_pyIter_str fun ob St W st => ?_)
  have hbI : b ≠ s.heap.objs.size := Nat.ne_of_lt (Heap.lt_size hb)
  refine wpAny_pure ⟨plainId_quiet fz_plain_loop _, fz_loop (l := l) (by have := W (A.in1) hA; simpa using this) hbI ho _ 0 _ rfl (Nat.zero_le _) st (Heap.get?_push_of_some _ hb) fun h' tk hk => ?_⟩
  rw [List.drop_zero]
  exact h h' tk fun c x e => hk c x (Nat.ne_of_lt (Heap.lt_size e)) (Heap.get?_push_of_some _ e)
theorem fz_add {x : Str} {t : Tok} {Q : Bool → Shared → Prop} {led : Bool} (hb : s.heap.get? b = some { cls := .type "frozenset", dict := none, data := .set #[] 0 (.fresh 0 0 led) })
    (h : ∀ h' o, Heap.SameBut b s.heap h' → h'.get? b = some o → FObj prog w o → Q true { s with heap := h', toks := s.toks + 1 }) (hx : x = S [35]) : wpAny (model prog w) A (setAdd b (.str x t)) Q E s := by
  unfold setAdd
  refine wpAny_holding (wpAny_bind ((strKind prog w).pyHash (k := x) (strKind_is prog w x t) ?_))
  unfold setAddHashed setAddHashedIn
  have hf : (SetTable.fresh 0 0 led).fits (#[] : Array (Int × Value)).size = true := by rfl
  refine wpAny_holding (wpAny_bind (wpAny_setState_of hb rfl hf ?_))
  dsimp only
  have hbs : byScan (Value.str x t) #[] = true := byScan_of (knd := strKind prog w) rfl (by decide) (fun e he => by cases he)
  rw [hbs, if_pos rfl]
  unfold setAddByScan
  refine wpAny_bind (wpAny_bind (wpAny_rule (wpAny_bind ?_)))
  refine wpAny_setScan_of (knd := strKind prog w) (k := x) (strKind_is prog w x t) hb rfl hf (fun e he => by cases he) ?_
  dsimp only [List.findIdx?, List.findIdx?.go]
  have hperm := layNew_perm (.fresh 0 0 led) #[] ((strKind prog w).hash x) (Value.str x t)
  have hfits := layNew_fits (.fresh 0 0 led) #[] ((strKind prog w).hash x) (Value.str x t)
  generalize layNew (.fresh 0 0 led) #[] ((strKind prog w).hash x) (Value.str x t) = Lr at hperm hfits ⊢
  obtain ⟨es1, t1, wd, gv⟩ := Lr
  dsimp only at hperm hfits ⊢
  have fo : ∀ {es2 : Array (Int × Value)} {t2 : SetTable} {ep2 : Nat}, es2.toList.Perm [((strKind prog w).hash x, Value.str x t)] → t2.fits es2.size = true → FObj prog w { cls := .type "frozenset", dict := none, data := .set es2 ep2 t2 } := by
    intro es2 t2 ep2 hp hf
    refine ⟨es2, ep2, t2, ⟨rfl, rfl⟩, rfl, fun e he => ?_, fun k => ?_, ?_, hf⟩
    · have := hp.mem_iff.mp he
      rw [List.mem_singleton] at this
      subst this
      exact ⟨⟨x, strKind_is prog w x t, rfl⟩, rfl⟩
    · constructor
      · rintro rfl
        exact ⟨_, hp.mem_iff.mpr (List.mem_singleton.mpr rfl), hx ▸ strKind_is prog w x t⟩
      · rintro ⟨e, he, hk⟩
        have := hp.mem_iff.mp he
        rw [List.mem_singleton] at this
        subst this
        exact ((strKind prog w).inj _ _ _ hk (strKind_is prog w x t)).trans hx
    · have := hp.length_eq
      rw [Array.length_toList] at this
      rw [this]; show 1 < scanBound; decide
  have st : ∀ {s : Shared} {es ep tz es2 t2} {R : Unit → Shared → Prop}, s.heap.get? b = some { cls := .type "frozenset", dict := none, data := .set es ep tz } → es2.toList.Perm [((strKind prog w).hash x, Value.str x t)] → t2.fits es2.size = true →
      (∀ h' , Heap.SameBut b s.heap h' → h'.get? b = some { cls := .type "frozenset", dict := none, data := .set es2 (ep + 1) t2 } → R () { s with heap := h' }) → wpAny (model prog w) A (storeSet b es2 t2) R E s := by
    intro s es ep tz es2 t2 R hb hp hf hR
    refine wpAny_storeSet_of hb rfl (hR _ (Heap.SameBut.update _ _ _) ?_) ?_
    · have := Heap.get?_update_self (Obj.putSet es2 t2) hb (by rfl)
      exact this
    · have := hp.length_eq
      rw [Array.length_toList] at this
      rw [this, sizeLine_eq]; show 1 ≤ _; decide
  have hp1 : es1.toList.Perm [((strKind prog w).hash x, Value.str x t)] := hperm
  have tail : ∀ {s : Shared} {g : Bool → Sem Unit} {ep : Nat} {tz t2 : SetTable} {R : Option Bool → Shared → Prop}, (∀ (b : Bool) (s₁ : Shared) (Q' : Unit → Shared → Prop), Q' () s₁ → wpAny (model prog w) A (g b) Q' E s₁) →
      s.heap.get? b = some { cls := .type "frozenset", dict := none, data := .set #[] ep tz } → t2.fits es1.size = true → (∀ h' o, Heap.SameBut b s.heap h' → h'.get? b = some o → FObj prog w o → R (some true) { s with heap := h' }) →
      wpAny (model prog w) A (do
        storeSet b es1 t2
        if (!wd && t2.tooFull) = true then do
            g (relayAll t2 es1 (SetTable.grown es1.size)).2.2
            storeSet b (relayAll t2 es1 (SetTable.grown es1.size)).1 (relayAll t2 es1 (SetTable.grown es1.size)).2.1
            pure (some true)
          else pure (some true)) R E s := by
    intro s g ep tz t2 R hg hb hf hR
    refine wpAny_bind (st hb hp1 hf fun h' hs he => ?_)
    split
    · refine wpAny_bind (hg _ _ _ ?_)
      refine wpAny_bind (st he ((relayAll_perm t2 es1 _).trans hp1) (relayAll_fits t2 es1 _) fun h'' hs' he' => ?_)
      exact wpAny_pure (hR h'' _ (hs.trans hs') he' (fo ((relayAll_perm t2 es1 _).trans hp1) (relayAll_fits t2 es1 _)))
    · exact wpAny_pure (hR h' _ hs he (fo hp1 hf))
  refine wpAny_bind ?_
  refine wpAny_mono (Q := fun _ s' => s' = { s with toks := s.toks + 1 }) (by cases gv <;> first | exact wpAny_pure rfl | exact wpAny_rule rfl) (fun _ s' e => ?_) fun _ _ x => x
  subst e
  have hb2 : ({ s with toks := s.toks + 1 } : Shared).heap.get? b = some { cls := .type "frozenset", dict := none, data := .set #[] 0 (.fresh 0 0 led) } := hb
  split
  · refine wpAny_bind ?_
    rw [hashByValue_scannable 8 rfl]
    refine wpAny_pure ?_
    refine tail ?_ hb2 (by split; exact hfits; exact SetTable.fits_plain_off hfits) fun h' o h1 h2 h3 => ?_
    · intro b s₁ Q' hq; cases b <;> first | exact wpAny_pure hq | exact wpAny_rule hq
    · exact wpAny_pure (h h' o h1 h2 h3)
  · refine wpAny_bind (wpAny_pure ?_)
    rw [if_pos rfl]
    refine tail ?_ hb2 hfits fun h' o h1 h2 h3 => ?_
    · intro b s₁ Q' hq; cases b <;> first | exact wpAny_pure hq | exact wpAny_rule hq
    · exact wpAny_pure (h h' o h1 h2 h3)
theorem fz_upd {I : Addr} {St : Nat → Heap → Prop} {R : Result → Shared → Prop} {led : Bool} (W : Walks prog w A.in1 I [I] [I] 1 (SignAt (S [35])) St) (hbI : b ≠ I) (hst : St 0 s.heap)
    (hb : s.heap.get? b = some { cls := .type "frozenset", dict := none, data := .set #[] 0 (.fresh 0 0 led) })
    (hR : ∀ h' tk o, (∀ c ob, c ≠ I → c ≠ b → s.heap.get? c = some ob → h'.get? c = some ob) → h'.get? b = some o → FObj prog w o → R (.ok (.ret .none)) { s with heap := h', toks := tk }) :
    codeAny (model prog w) A (.builtin "set.update.loop" ⟨[.ref b, .ref I], []⟩) R s := by
  refine codeAny_builtin PyProof.Rows.F.entry_set_update_loop ?_
  rw [Around.under_plainId PyProof.Rows.F.plain_set_update_loop _]
  show wpAny _ A.in1 (pyNext (.ref I) >>= _) _ _ s
  refine wpAny_bind (W.item 0 s _ _ (by decide) hst fun v h' tk hP hst' hm => ?_)
  obtain ⟨c, u, hc, rfl⟩ := hP
  have hc : 35 = c := by simpa using hc
  subst hc
  have hb' := hm b _ (by simpa using hbI) hb
  show wpAny _ A.in1 (holding [Value.str (S [35]) u] (setAdd b (.str (S [35]) u)) >>= _) _ _ _
  refine wpAny_bind (wpAny_holding (fz_add (s := { s with heap := h', toks := tk }) hb' (fun h2 o hs h2o ho => ?_) rfl))
  refine wpAny_pure ⟨plainId_quiet PyProof.Rows.F.plain_set_update_loop _, codeAny_builtin PyProof.Rows.F.entry_set_update_loop ?_⟩
  rw [Around.under_plainId PyProof.Rows.F.plain_set_update_loop _]
  show wpAny _ A.in1 (pyNext (.ref I) >>= _) _ _ _
  refine wpAny_bind (W.done _ _ _ (W.frame _ _ _ hst' fun c hc o e => ?_) fun h3 tk3 hm3 => ?_)
  · rw [hs.2 c (fun q => hbI (by rw [← q]; simpa using hc))]; exact e
  · refine wpAny_pure (hR h3 tk3 o (fun c ob h1 h2 e => hm3 c ob (by simpa using h1) ?_) (hm3 b o (by simpa using hbI) h2o) ho)
    rw [hs.2 c h2]
    exact hm c ob (by simpa using h1) e
theorem fz_new {t : Tok} {R : Result → Shared → Prop} (hA : A.handled = none) (h : ∀ l h' o tk, s.heap.StaysIn h' → s.heap.get? l = none → h'.get? l = some o → FObj prog w o → R (.ok (.ret (.ref l))) { s with heap := h', toks := tk }) :
    codeAny (model prog w) A (.call (.builtin "frozenset.__new__") ⟨[.type "frozenset", .str (S [35]) t], []⟩) R s := by
  refine codeAny_call_builtin fz_called.plain fz_entry_new (wpAny_of_eq (fz_newCall _) ?_)
  unfold Builtin.«frozenset.__new__» Builtin.Frozenset.newClass
  have hsub := fz_sub
  have hin := fz_init.lookup
  have hTs : s.TypeIs (.str (S [35]) t) "str" := rfl
  obtain ⟨hp, g, d, tk, os⟩ := s
  dsimp only
  repeat k_extra "wq"
  refine wpAny_askSetting (wpAny_pure ?_)
  dsimp only
  simp only [newObj]
  refine wpAny_bind (wpAny_alloc (wpAny_pure ?_))
  generalize hled : (!_ : Bool) = led
  have hS : (hp.push { cls := .type "frozenset", dict := none, data := .set #[] 0 (.fresh 0 0 led) }).get? hp.objs.size = some { cls := .type "frozenset", dict := none, data := .set #[] 0 (.fresh 0 0 led) } := Heap.get?_push_size _ rfl
  unfold Builtin.Frozenset.addrOf
  refine wpAny_bind (wpAny_pure (wpAny_bind (wpAny_holding ?_)))
  unfold Builtin.Frozenset.updateFrom Builtin.Frozenset.isAnySet
  refine wpAny_bind (wpAny_bind (wpAny_isInstance (s := ⟨_, g, d, tk, os⟩) (by exact hTs) fz_str1 ?_))
  refine wpAny_isInstance (s := ⟨_, g, d, tk, os⟩) (by exact hTs) fz_str2 ?_
  rw [if_neg Bool.false_ne_true]
  refine wpAny_bind (wpAny_typeOf (s := ⟨_, g, d, tk, os⟩) (by exact hTs) ?_)
  rw [if_neg (by decide)]
  refine wpAny_bind (wpAny_pyIter_str fun ob St W st => ?_)
  have hne : hp.objs.size ≠ (hp.push { cls := .type "frozenset", dict := none, data := .set #[] 0 (.fresh 0 0 led) }).objs.size := by rw [Heap.size_push]; exact Nat.ne_of_lt (Nat.lt_succ_self _)
  refine wpAny_bind (wpAny_runValue (fz_upd (W _ hA) hne st (Heap.get?_push_of_some _ hS) fun h' tk' o k1 k2 k3 => ?_))
  refine wpAny_pure (wpAny_pure (wpAny_pure ?_))
  refine h _ h' o tk' (fun c x e => ?_) (Heap.get?_none_of_le (Nat.le_refl _)) k2 k3
  have lt : c < hp.objs.size := Heap.lt_size e
  exact k1 c x (Nat.ne_of_lt (Nat.lt_of_lt_of_le lt (by show hp.objs.size ≤ (hp.push _).objs.size; rw [Heap.size_push]; exact Nat.le_succ _))) (Nat.ne_of_lt lt) (Heap.get?_push_of_some _ (Heap.get?_push_of_some _ e))
end
end Mine
end
section
open PySem PySem.Spec PySem.Calls PyProof.Rows PySem.W
set_option maxHeartbeats 8000000
namespace Mine
section
variable {prog : Program} {w : World} {A : Around} {E : Value → Shared → Prop} {s : Shared} {b : Addr} {o : Obj}
theorem fz_make {t : Tok} {Q : Value → Shared → Prop} (hA : A.handled = none) (h : ∀ l h' o tk, s.heap.StaysIn h' → s.heap.get? l = none → h'.get? l = some o → FObj prog w o → Q (.ref l) { s with heap := h', toks := tk }) :
    wpAny (model prog w) A (call (.type "frozenset") [.str (S [35]) t]) Q E s := by
  have hmade := fz_called.made
  have hsub := fz_called.sub
  have h1 := fz_called.notType
  have h2 := fz_called.canCreate
  have hct := fz_typeCall (.str (S [35]) t)
  refine wpAny_call (codeAny_of_tree ?_)
  show wpAny _ _ (callAny (.type "frozenset") _) _ _ _
  refine wpAny_pure ⟨Code.quiet_builtin _ (by decide +kernel), codeAny_builtin F.entry_type_call ?_⟩
  rw [Around.under_plain (weight_type_call_type "frozenset" _ []) (units_type_call_type "frozenset" _ [])]
  obtain ⟨c, tl, hmro⟩ := fz_called.mro
  repeat (any_goals (first | assumption | k_extra "wq"))
  refine codeAny_mono (fz_new (R := wants (fun v s₁ => s₁.TypeIs v "frozenset" ∧ Q v s₁) E) hA fun l h' o tk k1 k2 k3 k4 => ?_) fun r s₁ hr => ?_
  · exact ⟨⟨o, k3, by obtain ⟨_, _, _, hc, _⟩ := k4; exact hc.1⟩, h l h' o tk k1 k2 k3 k4⟩
  cases r with
  | error e => exact hr
  | ok fl =>
    cases fl with
    | ret v =>
      obtain ⟨hT, hq⟩ := hr
      have hli := fz_called.init.lookup
      have hbi := fz_called.init.bind v
      repeat (any_goals (first | assumption | k_extra "wq"))
      refine codeAny_mono (codeAny_call_builtin (R := wants (fun r s₂ => r = .none ∧ Q v s₂) E) fz_called.init.plain F.entry_object_init (fz_called.init.check _ _ _ _ _ _ _ _ hT (F.args_object_init_2 v _)
        ((object_init_meets fz_called.init.lookup fz_called.made (by decide)) prog w _ _ s₁ ⟨hT, rfl, hq⟩))) fun r₂ s₂ hr₂ => ?_
      cases r₂ with
      | error e => exact hr₂
      | ok fl₂ =>
        cases fl₂ with
        | ret r =>
          obtain ⟨rfl, hq⟩ := hr₂
          repeat (any_goals (first | assumption | k_extra "wq"))
        | _ => exact hr₂.elim
    | _ => exact hr.elim
end
end Mine
end
section
open PySem PySem.Spec PySem.Calls PyProof.Rows PySem.W
set_option maxHeartbeats 8000000
namespace Mine
theorem enter0 {prog : Program} {w : World} {A₀ A : Around} {s : Shared} {base h₀ : Heap} {outer : List Env} {L : Addr} {m : Str → Option Value} {env : Env} {tb news : List (Addr × Obj)}
    {R : Result → Shared → Prop} {name qual : Str} {params : Arguments} {body : List Stmt} {scope : Scope} {dV kV doc pm cdv ct : Value} {an : Option Addr} {fo : Obj} {f : Addr} {args : Args} {binds : List (Str × Value)}
    (B : Below A₀ base outer h₀) (F : Fr h₀ L s.heap m) (N0 : News h₀ L s.heap news) (htb : ∀ p ∈ tb, p ∈ news) (hlim : h₀.NoLimit) (hA : A.frames = some (env :: outer)) (hf : env.frame = some L) (hke : env.scope.kind = .function)
    (ho : s.heap.get? f = some fo) (hd : fo.data = .func (fnX name qual params body scope [] dV kV doc pm an cdv ct)) (hcd : s.heap.CodeRec cdv qual) (hroom : A.depth < recursionLimit)
    (hbind : BindsTo s (fnX name qual params body scope [] dV kV doc pm an cdv ct) args binds) (hloc : ∀ y ∈ binds, scope.names.lookup y.1 = some .local)
    (h : ∀ g L' h₁ tk, g = hideAll s.heap (tb.map (·.1)) → Fr g L' h₁ (fun y => binds.reverse.lookup y) → News g L' h₁ tb → Below A base (env :: outer) g →
      h₀.StaysIn g → (∀ p ∈ tb, p.1 < L') →
      wpAny (model prog w) (A.deeper (envOf qual scope L' f cdv)) (execs body (envOf qual scope L' f cdv))
        (fun fl s' => R (.ok (.ret (match fl with | .ret v => v | _ => .none))) s')
        (fun e s' => wpAny (model prog w) (A.deeper (envOf qual scope L' f cdv)) (leaving (envOf qual scope L' f cdv) e) (fun _ s'' => R (.error e) s'') (fun e' s'' => R (.error e') s'') s')
        { s with heap := h₁, toks := tk })
    (hcell : ∀ x ∈ scope.names, x.2 ≠ .cell) (hco : scope.isCoroutine = false := by rfl) (hgen : scope.isGenerator = false := by rfl) (hk : scope.kind = .function := by rfl) : codeAny (model prog w) A (.call (.ref f) args) R s := by
  exact enter (cl := []) B F N0 htb hlim hA hf hke ho hd hcd hroom hbind hloc h hcell hco hgen hk
end Mine
end
section
open PySem PySem.Spec PySem.Calls PyProof.Rows PySem.W
set_option maxHeartbeats 8000000
namespace Mine
structure Turned (fs : List Addr) (g h : Heap) : Prop where
  other : ∀ b o, g.get? b = some o → b ∉ fs → h.get? b = some o
  frame : ∀ b o, g.get? b = some o → b ∈ fs → ∃ sl, h.get? b = some { o with slots := sl }
noncomputable abbrev frs (l : List Env) : List Addr := l.filterMap (·.frame)
theorem Turned.of_stays {fs : List Addr} {g h : Heap} (k : g.StaysIn h) : Turned fs g h := ⟨fun b o e _ => k b o e, fun b o e _ => ⟨o.slots, k b o e⟩⟩
theorem Turned.up {fs : List Addr} {g h : Heap} (x : Turned fs g h) {b : Addr} {o : Obj} (e : g.get? b = some o) : ∃ sl, h.get? b = some { o with slots := sl } := by
  by_cases q : b ∈ fs
  · exact x.frame b o e q
  · exact ⟨o.slots, x.other b o e q⟩
theorem Turned.trans {fs : List Addr} {g h k : Heap} (x : Turned fs g h) (y : Turned fs h k) : Turned fs g k :=
  ⟨fun b o e q => y.other b o (x.other b o e q) q, fun b o e q => by
    obtain ⟨s1, h1⟩ := x.frame b o e q
    obtain ⟨s2, h2⟩ := y.frame b _ h1 q
    exact ⟨s2, h2⟩⟩
theorem Turned.of_turn {fs : List Addr} {g g' h : Heap} (t : KtsTurn fs g g') (k : g'.StaysIn h) : Turned fs g h :=
  ⟨fun b o e q => k _ _ (t.other b o e q), fun b o e q => by
    obtain ⟨sl, h1⟩ := t.frame b o e q
    exact ⟨sl, k _ _ h1⟩⟩
theorem push' {A : Around} {base h₀ h : Heap} {outer : List Env} {L : Addr} {m : Str → Option Value} {env : Env} (K : Below A base outer h₀) (F : Fr h₀ L h m) (hf : env.frame = some L) (hk : env.scope.kind = .function) : Below (A.deeper env) base (env :: outer) h := by
  have hnew : base.get? L = none := by
    cases hq : base.get? L with
    | none => rfl
    | some o => exact absurd (Nat.lt_of_lt_of_le (Heap.lt_size (K.stays L o hq)) F.above) (Nat.lt_irrefl _)
  refine ⟨Around.frames_deeper K.stack, fun b o e => F.keep b o (K.stays b o e), ?_⟩
  exact .cons (by rw [hk]; decide) hf F.ns hnew (K.frames.of_keeps fun b o e _ => ⟨o, F.keep b o e, rfl⟩)
theorem reground {A₀ : Around} {base g h₁ h' : Heap} {outer : List Env} {L : Addr} {m : Str → Option Value} {news : List (Addr × Obj)} (K : Below A₀ base outer g) (F : Fr g L h₁ m) (N : News g L h₁ news) (t : Turned (L :: frs outer) h₁ h') :
    ∃ g', KtsTurn (frs outer) g g' ∧ Fr g' L h' m ∧ News g' L h' news ∧ Below A₀ base outer g' := by
  have hself := kts_self F
  have hmem : ∀ b ∈ frs outer, ∃ o, g.get? b = some o := fun b hb => by
    obtain ⟨_, o, ho, _⟩ := K.frames.mem hb
    exact ⟨o, ho⟩
  obtain ⟨T, S⟩ := kts_turn_at (h := h') (fs := frs outer) (g := g) hmem
    (fun b o e nm => t.other b o (F.keep b o e) (fun q => by
      rcases List.mem_cons.mp q with q | q
      · rw [q, hself] at e; cases e
      · exact nm q))
    (fun b o e hm => t.frame b o (F.keep b o e) (.tail _ hm))
  refine ⟨_, T, ⟨?_, S, by rw [T.size]; exact F.above⟩, fun p hp => ⟨t.other _ _ (N p hp).1 (fun q => ?_), (N p hp).2.1, T.none_ _ (N p hp).2.2⟩, ⟨K.stack, fun b o e => T.other b o (K.stays b o e) (fun hm => by
    rw [(K.frames.mem hm).1] at e
    cases e), K.frames.of_keeps fun b o e _ => ?_⟩⟩
  · obtain ⟨oL, es, ep, hL, hd, r⟩ := F.ns
    obtain ⟨sl, hs⟩ := t.up hL
    exact ⟨_, es, ep, hs, hd, r⟩
  · rcases List.mem_cons.mp q with q | q
    · exact (N p hp).2.1 q
    · obtain ⟨o, ho⟩ := hmem _ q
      rw [(N p hp).2.2] at ho; cases ho
  · obtain ⟨sl, hs⟩ := T.up e
    exact ⟨_, hs, rfl⟩
section
variable {M : Model} {A : Around} {E : Value → Shared → Prop} {s : Shared}
theorem noteE {base : Heap} {env : Env} {outer : List Env} {L e : Addr} {oe : Obj} {vs : Array Value} {Q : Unit → Shared → Prop} (hfr : A.frames = some (env :: outer)) (hl : s.heap.FunFrames base (env :: outer)) (hf : env.frame = some L)
    (he : s.heap.get? e = some oe) (hd : oe.data = .fields vs) (h1 : vs[1]? = some .none)
    {G : Heap} (kG : G.StaysIn s.heap) (eG : G.get? e = none)
    (h : ∀ h' T oT ts oe', Turned (frs (env :: outer)) G h' → oe'.cls = oe.cls → oe'.data = .fields (vs.setIfInBounds 1 (.ref T)) → h'.get? e = some oe' → T ≠ e → G.get? T = none → h'.get? T = some oT → oT.data = .fields ts → 3 < ts.size → Q () { s with heap := h' }) :
    wpAny M A (noteFrame (.ref e) env) Q E s := by
  have hene : e ∉ frs (env :: outer) := fun hm => by
    obtain ⟨_, o, ho, hnf⟩ := hl.mem hm
    rw [he] at ho; injection ho with ho; subst ho; exact hnf vs hd
  have hsz : 1 < vs.size := (Array.getElem?_eq_some_iff.mp h1).1
  unfold noteFrame
  simp only [hf]
  refine wpAny_bind (wpAny_field he hd h1 ?_)
  rw [if_neg (by decide)]
  refine wpAny_bind (wpAny_frameOf_fun hfr hl hf fun h₁ hs₁ => ?_)
  refine wpAny_bind (wpAny_entryPlaceOf fun pl hpl => ?_)
  unfold EntryCells.newEntry newFields
  refine wpAny_bind (wpAny_newObj_type ?_ (hpl.sizeOk5 _ _ _ _ _))
  have he₁ : h₁.get? e = some oe := (hs₁.2.1 e hene).trans he
  generalize hoT : ({ cls := .type "traceback", dict := none, data := .fields _ } : Obj) = oT
  have he₂ := Heap.get?_push_of_some (h := h₁) oT he₁
  refine wpAny_setField he₂ hd hsz ?_
  have hTe : h₁.objs.size ≠ e := Nat.ne_of_gt (Heap.lt_size he₁)
  have hd₃ := Obj.data_mapFields hd (·.setIfInBounds 1 (Value.ref h₁.objs.size))
  have he₃ := Heap.get?_update_self (Obj.mapFields (·.setIfInBounds 1 (Value.ref h₁.objs.size))) he₂ (Obj.isFreed_of_fields hd₃)
  have hT₃ := (Heap.get?_update_other (h₁.push oT) (Obj.mapFields (·.setIfInBounds 1 (Value.ref h₁.objs.size))) (Ne.symm hTe)).trans (Heap.get?_push_size h₁ (by rw [← hoT]; rfl))
  have keep : ∀ b o, b ≠ e → h₁.get? b = some o → ((h₁.push oT).update e (Obj.mapFields (·.setIfInBounds 1 (Value.ref h₁.objs.size)))).get? b = some o := fun b o hbe hb => by
    rw [Heap.get?_update_other _ _ (Ne.symm hbe)]
    exact Heap.get?_push_of_some _ hb
  refine h _ h₁.objs.size oT _ _ ⟨fun b o hb hn => ?_, fun b o hb hm => ?_⟩ (Obj.cls_mapFields _ _) hd₃ he₃ hTe ?_ hT₃ (by rw [← hoT]) (by simp only [List.size_toArray, List.length_append, List.length_cons, List.length_nil] <;> omega)
  · exact keep b o (fun q => by rw [q, eG] at hb; cases hb) ((hs₁.2.1 b hn).trans (kG _ _ hb))
  · obtain ⟨sl, hs⟩ := hs₁.2.2 b o (kG _ _ hb)
    exact ⟨sl, keep b _ (fun q => hene (q ▸ hm)) hs⟩
  · cases q : G.get? h₁.objs.size with
    | none => rfl
    | some o => exact absurd (Heap.lt_size (kG _ _ q)) (by rw [hs₁.1]; exact Nat.lt_irrefl _)
theorem landE {e T : Addr} {oe oT : Obj} {vs ts : Array Value} {Q : Unit → Shared → Prop} (he : s.heap.get? e = some oe) (hd : oe.data = .fields vs) (h1 : vs[1]? = some (.ref T)) (hT : s.heap.get? T = some oT) (hdT : oT.data = .fields ts) (h3 : 3 < ts.size)
    (h : ∀ h' oT' ts', (∀ b, b ≠ T → h'.get? b = s.heap.get? b) → h'.get? T = some oT' → oT'.data = .fields ts' → 3 < ts'.size → Q () { s with heap := h' }) : wpAny M A (setFlight (.ref e) none) Q E s := by
  unfold setFlight
  refine wpAny_bind (wpAny_field he hd h1 ?_)
  rw [if_pos (show (Value.ref T != Value.none) = true from by simp)]
  refine wpAny_setField hT hdT h3 (h _ _ _ (fun b hb => Heap.get?_update_other _ _ (Ne.symm hb)) (Heap.get?_update_self _ hT (Obj.isFreed_of_fields (Obj.data_mapFields hdT _))) (Obj.data_mapFields hdT _) ?_)
  simpa using h3
end
section
variable {prog : Program} {w : World} {A₀ : Around} {E : Value → Shared → Prop} {s' : Shared} {base g h₁ : Heap} {outer : List Env} {L a e : Addr} {m : Str → Option Value} {name : Str} {scope : Scope} {cd : Value}
  {b₀ : Stmt} {suite : List Stmt} {pos np : Pos} {rest : List ExceptHandler} {Q : Flow → Shared → Prop} {news : List (Addr × Obj)} {KF : Frag} {p : Program} {loose : List Str} {mean : ExcName → Option Value} {mg mb : Str → Option Value} {x : Str} {X T' : String}
end
namespace EcatchV
noncomputable def Pk9 (prog : Program) (w : World) (A₀ : Around) (E : Value → Shared → Prop) (s' : Shared) (base : Heap) (g : Heap) (h₁ : Heap) (outer : List Env) (L : Addr) (a : Addr) (e : Addr) (m : Str → Option Value) (name : Str) (scope : Scope) (cd : Value) (b₀ : Stmt) (suite : List Stmt) (pos : Pos) (np : Pos) (rest : List ExceptHandler) (Q : Flow → Shared → Prop) (news : List (Addr × Obj)) (KF : Frag) (p : Program) (loose : List Str) (mean : ExcName → Option Value) (mg : Str → Option Value) (mb : Str → Option Value) (x : Str) (X : String) (T' : String) : Prop := ∀ (K : Below A₀ base outer g) (F : Fr g L h₁ m) (N : News g L h₁ news) (XB : KF.In base) (TB : Top p loose mean mg mb base) (ne : Heap.NewExc h₁ s'.heap e X) (ex : nsIn KF mainGlobals x = some none) (hv : bootBuiltins x = some (.type T')) (hn' : x ≠ "__name__") (hexc : isSubtype (.type T') (.type "BaseException") = pure true) (hnt : isSubtype (.type ((Manifest.find? T').elim "type" fun y => y.metatype)) (.type "tuple") = pure false) (hsub : isSubtype (.type X) (.type T') = pure true) (k : ∀ h' g' oe vs, KtsTurn (frs outer) g g' → Fr g' L h' m → News g' L h' ((e, oe) :: news) → oe.data = .fields vs → vs[2]? = some .none → Below A₀ base outer g' → KF.In g' → Top p loose mean mg mb g' →
      wpAny (model prog w) ((A₀.deeper (envOf name scope L a cd)).mark (some (.ref e))) (execs (b₀ :: suite) (envOf name scope L a cd)) Q E { s' with heap := h' }) (hk : scope.kind = .function) (hx : (envOf name scope L a cd).kindOf x = some .globalImplicit) (hd : (x == ("__debug__" : Str)) = false) (hE : PassesOwnAt (model prog w) ((A₀.deeper (envOf name scope L a cd)).mark (some (.ref e))) (A₀.deeper (envOf name scope L a cd)) (envOf name scope L a cd) E),
    wpAny (model prog w) (A₀.deeper (envOf name scope L a cd)) (noteFrame (.ref e) (envOf name scope L a cd))
      (fun _ s₂ => wpAny (model prog w) (A₀.deeper (envOf name scope L a cd)) (setFlight (.ref e) none) (fun _ s₃ =>
        wpAny (model prog w) (A₀.deeper (envOf name scope L a cd)) (handleBy (.ref e) (envOf name scope L a cd) (.ExceptHandler (some (.Name x np)) none (b₀ :: suite) pos :: rest)) Q E s₃) E s₂) E s'
noncomputable def Pu9 (x : ((((((Program) × (World)) × ((Around) × (Value → Shared → Prop))) × (((Shared) × (Heap)) × ((Heap) × (Heap)))) × ((((List Env) × (Addr)) × ((Addr) × (Addr))) × (((Str → Option Value) × (Str)) × ((Scope) × (Value))))) × (((((Stmt) × (List Stmt)) × ((Pos) × (Pos))) × (((List ExceptHandler) × (Flow → Shared → Prop)) × ((List (Addr × Obj)) × (Frag)))) × ((((Program) × (List Str)) × ((ExcName → Option Value) × (Str → Option Value))) × (((Str → Option Value) × (Str)) × ((String) × (String))))))) : Prop := Pk9 x.1.1.1.1.1 x.1.1.1.1.2 x.1.1.1.2.1 x.1.1.1.2.2 x.1.1.2.1.1 x.1.1.2.1.2 x.1.1.2.2.1 x.1.1.2.2.2 x.1.2.1.1.1 x.1.2.1.1.2 x.1.2.1.2.1 x.1.2.1.2.2 x.1.2.2.1.1 x.1.2.2.1.2 x.1.2.2.2.1 x.1.2.2.2.2 x.2.1.1.1.1 x.2.1.1.1.2 x.2.1.1.2.1 x.2.1.1.2.2 x.2.1.2.1.1 x.2.1.2.1.2 x.2.1.2.2.1 x.2.1.2.2.2 x.2.2.1.1.1 x.2.2.1.1.2 x.2.2.1.2.1 x.2.2.1.2.2 x.2.2.2.1.1 x.2.2.2.1.2 x.2.2.2.2.1 x.2.2.2.2.2
noncomputable def ck9 : {x : _ // Pu9 x → ∀ y, Pu9 y} := Classical.choice (drink (by repeat (first | exact neS | exact neW | exact neA | refine ne2 ?_ ?_ | exact ⟨default⟩ | exact ⟨fun _ _ => True⟩ | exact ⟨fun _ => True⟩ | exact ⟨fun _ => default⟩ | exact ⟨fun _ _ => default⟩)))
noncomputable def prog : Program := ck9.1.1.1.1.1.1
noncomputable def w : World := ck9.1.1.1.1.1.2
noncomputable def A₀ : Around := ck9.1.1.1.1.2.1
noncomputable def E : Value → Shared → Prop := ck9.1.1.1.1.2.2
noncomputable def s' : Shared := ck9.1.1.1.2.1.1
noncomputable def base : Heap := ck9.1.1.1.2.1.2
noncomputable def g : Heap := ck9.1.1.1.2.2.1
noncomputable def h₁ : Heap := ck9.1.1.1.2.2.2
noncomputable def outer : List Env := ck9.1.1.2.1.1.1
noncomputable def L : Addr := ck9.1.1.2.1.1.2
noncomputable def a : Addr := ck9.1.1.2.1.2.1
noncomputable def e : Addr := ck9.1.1.2.1.2.2
noncomputable def m : Str → Option Value := ck9.1.1.2.2.1.1
noncomputable def name : Str := ck9.1.1.2.2.1.2
noncomputable def scope : Scope := ck9.1.1.2.2.2.1
noncomputable def cd : Value := ck9.1.1.2.2.2.2
noncomputable def b₀ : Stmt := ck9.1.2.1.1.1.1
noncomputable def suite : List Stmt := ck9.1.2.1.1.1.2
noncomputable def pos : Pos := ck9.1.2.1.1.2.1
noncomputable def np : Pos := ck9.1.2.1.1.2.2
noncomputable def rest : List ExceptHandler := ck9.1.2.1.2.1.1
noncomputable def Q : Flow → Shared → Prop := ck9.1.2.1.2.1.2
noncomputable def news : List (Addr × Obj) := ck9.1.2.1.2.2.1
noncomputable def KF : Frag := ck9.1.2.1.2.2.2
noncomputable def p : Program := ck9.1.2.2.1.1.1
noncomputable def loose : List Str := ck9.1.2.2.1.1.2
noncomputable def mean : ExcName → Option Value := ck9.1.2.2.1.2.1
noncomputable def mg : Str → Option Value := ck9.1.2.2.1.2.2
noncomputable def mb : Str → Option Value := ck9.1.2.2.2.1.1
noncomputable def x : Str := ck9.1.2.2.2.1.2
noncomputable def X : String := ck9.1.2.2.2.2.1
noncomputable def T' : String := ck9.1.2.2.2.2.2
theorem kk9 : Pk9 prog w A₀ E s' base g h₁ outer L a e m name scope cd b₀ suite pos np rest Q news KF p loose mean mg mb x X T' := by
  intro K F N XB TB ne ex hv hn' hexc hnt hsub k hk hx hd hE
  have K' := push' (env := envOf name scope L a cd) K (F.keeps ne.keeps) rfl hk
  obtain ⟨oe, t0, he, hc, hde⟩ := ne.there
  have eL : e ≠ L := fun q => by
    obtain ⟨oL, _, _, hL, _⟩ := F.ns
    rw [← q, ne.new] at hL; cases hL
  have ge : g.get? e = none := kts_none F.keep ne.new
  refine noteE K'.stack K'.frames rfl he hde rfl ne.keeps ne.new fun h₂ T oT ts oe' t₂ c₂ d₂ e₂ nT gT hT dT sT => ?_
  have v1 : ((#[t0, .none, .none, .none, .bool false, .none] : Array Value).setIfInBounds 1 (.ref T))[1]? = some (.ref T) := rfl
  refine landE e₂ d₂ v1 hT dT sT fun h₃ oT₃ ts₃ o₃ hT₃ dT₃ sT₃ => ?_
  have e₃ : h₃.get? e = some oe' := (o₃ e (Ne.symm nT)).trans e₂
  have back : ∀ {h₂ h₃ : Heap}, Turned (L :: frs outer) h₁ h₂ → (∀ b, b ≠ T → h₃.get? b = h₂.get? b) → Turned (L :: frs outer) h₁ h₃ := fun {h₂ h₃} t o => ⟨fun b ob e q => by
      rw [o b (fun z => by rw [z, gT] at e; cases e)]; exact t.other b ob e q, fun b ob e q => by
      rw [o b (fun z => by rw [z, gT] at e; cases e)]; exact t.frame b ob e q⟩
  have t₃ := back t₂ o₃
  obtain ⟨g₃, T₃, F₃, N₃, K₃⟩ := reground K F N t₃
  refine wpAny_handleBy_builtin (X := X) (T := T') (b := true) hexc hnt hsub (name_B F₃ (XB.keeps K₃.stays) (topRead_of (TB.keeps K₃.stays)) ex hv hn' ⟨rfl, ⟨oe', e₃, c₂.trans hc⟩, ?_⟩ hk hx hd)
  refine landE e₃ d₂ v1 hT₃ dT₃ sT₃ fun h₄ oT₄ ts₄ o₄ hT₄ dT₄ sT₄ => ?_
  have e₄ : h₄.get? e = some oe' := (o₄ e (Ne.symm nT)).trans e₃
  obtain ⟨g₄, T₄, F₄, N₄, K₄⟩ := reground K F N (back t₃ o₄)
  exact wpAny_passesOwnAt hE (k h₄ g₄ oe' _ T₄ F₄ (fun q hq => (List.mem_cons.mp hq).elim (fun z => z ▸ ⟨e₄, eL, T₄.none_ _ ge⟩) (N₄ q)) d₂ rfl K₄ (XB.keeps K₄.stays) (TB.keeps K₄.stays))
end EcatchV
section
variable {prog : Program} {w : World} {A₀ : Around} {E : Value → Shared → Prop} {s' : Shared} {base g h₁ : Heap} {outer : List Env} {L a e : Addr} {m : Str → Option Value} {name : Str} {scope : Scope} {cd : Value}
  {b₀ : Stmt} {suite : List Stmt} {pos np : Pos} {rest : List ExceptHandler} {Q : Flow → Shared → Prop} {news : List (Addr × Obj)} {KF : Frag} {p : Program} {loose : List Str} {mean : ExcName → Option Value} {mg mb : Str → Option Value} {x : Str} {X T' : String}
theorem catchV (K : Below A₀ base outer g) (F : Fr g L h₁ m) (N : News g L h₁ news) (XB : KF.In base) (TB : Top p loose mean mg mb base) (ne : Heap.NewExc h₁ s'.heap e X)
    (ex : nsIn KF mainGlobals x = some none) (hv : bootBuiltins x = some (.type T')) (hn' : x ≠ "__name__")
    (hexc : isSubtype (.type T') (.type "BaseException") = pure true) (hnt : isSubtype (.type ((Manifest.find? T').elim "type" fun y => y.metatype)) (.type "tuple") = pure false) (hsub : isSubtype (.type X) (.type T') = pure true)
    (k : ∀ h' g' oe vs, KtsTurn (frs outer) g g' → Fr g' L h' m → News g' L h' ((e, oe) :: news) → oe.data = .fields vs → vs[2]? = some .none → Below A₀ base outer g' → KF.In g' → Top p loose mean mg mb g' →
      wpAny (model prog w) ((A₀.deeper (envOf name scope L a cd)).mark (some (.ref e))) (execs (b₀ :: suite) (envOf name scope L a cd)) Q E { s' with heap := h' })
    (hk : scope.kind = .function := by rfl) (hx : (envOf name scope L a cd).kindOf x = some .globalImplicit := by rfl) (hd : (x == ("__debug__" : Str)) = false := by decide)
    (hE : PassesOwnAt (model prog w) ((A₀.deeper (envOf name scope L a cd)).mark (some (.ref e))) (A₀.deeper (envOf name scope L a cd)) (envOf name scope L a cd) E := by passes_own) :
    wpAny (model prog w) (A₀.deeper (envOf name scope L a cd)) (noteFrame (.ref e) (envOf name scope L a cd))
      (fun _ s₂ => wpAny (model prog w) (A₀.deeper (envOf name scope L a cd)) (setFlight (.ref e) none) (fun _ s₃ =>
        wpAny (model prog w) (A₀.deeper (envOf name scope L a cd)) (handleBy (.ref e) (envOf name scope L a cd) (.ExceptHandler (some (.Name x np)) none (b₀ :: suite) pos :: rest)) Q E s₃) E s₂) E s' :=
  EcatchV.ck9.2 EcatchV.kk9 (((((prog, w), (A₀, E)), ((s', base), (g, h₁))), (((outer, L), (a, e)), ((m, name), (scope, cd)))), ((((b₀, suite), (pos, np)), ((rest, Q), (news, KF))), (((p, loose), (mean, mg)), ((mb, x), (X, T'))))) K F N XB TB ne ex hv hn' hexc hnt hsub k hk hx hd hE
end
end Mine
end
section
open PySem PySem.Spec PySem.Calls PyProof.Rows PySem.W
set_option maxHeartbeats 8000000
namespace Mine
theorem entry_unchain : entryFor table "proto.unchain" = some Builtin.«proto.unchain» := entryFor_of_tree (by kernel_rfl)
theorem plain_unchain : plainId "proto.unchain" = true := by decide +kernel
noncomputable abbrev madeO (t : Addr) (b : Bool) (c : Value) : Obj := { cls := .ref 41, data := .fields #[.ref t, .none, c, .none, .bool b, .none] }
section
variable {prog : Program} {w : World} {A : Around} {E : Value → Shared → Prop} {s : Shared} {env : Env}
variable {nm q : Str} {N : Addr} {bs bm : List Value} {hdct : Bool} {sn : List Str} {sub : List Value} {ab : Bool} {col : Option Bool} {dd : Option Addr} {k0 k1 k2 k3 k5 : Option Value} {newId : String}
theorem raise_none {x c : Sem Value} {e0 : Addr} {Q : Flow → Shared → Prop} (hh : A.handled = some (.ref e0)) (hbase : bm.contains (.type "BaseException") = true)
    (hc : ∀ (s : Shared) (Q : Value → Shared → Prop), Q .none s → wpAny (model prog w) A c Q E s)
    (h : wpAny (model prog w) A x (fun v s₁ => ∃ e t oe0 vs0, v = .ref e ∧ e ≠ e0 ∧ s₁.heap.get? 41 = some (excClassObj nm q 41 N bs bm hdct sn sub ab col dd k0 k1 k2 k3 k5 newId) ∧ s₁.heap.get? e = some (madeO t false .none) ∧
      s₁.heap.get? e0 = some oe0 ∧ oe0.data = .fields vs0 ∧ vs0[2]? = some .none ∧
      ∀ h', (∀ b, b ≠ e → h'.get? b = s₁.heap.get? b) → h'.get? e = some (madeO t true (.ref e0)) → E (.ref e) { s₁ with heap := h' }) E s) :
    wpAny (model prog w) A (raiseStmt env (some x) (some c)) Q E s := by
  have hcB : (Value.ref 41 :: bm).contains (.type "BaseException") = true := by rw [List.contains_cons, hbase, Bool.or_true]
  unfold raiseStmt
  refine wpAny_bind (wpAny_mono h (fun v s₁ h₁ => ?_) fun _ _ x => x)
  obtain ⟨e, t, oe0, vs0, rfl, hne, hC, he, h0, hd0, hv0, hE⟩ := h₁
  obtain ⟨hp, g, d, tk, os⟩ := s₁
  refine wpAny_bind (wpAny_holding (hc _ _ (wpAny_bind (wpAny_pure ?_))))
  dsimp only
  have hT : (⟨hp, g, d, tk, os⟩ : Shared).TypeIs (.ref 41) "type" := ⟨_, hC, rfl⟩
  repeat (first | with_reducible refine wpAny_loadPart_at he ?_ | with_reducible refine wpAny_loadPart_at hC ?_ | (with_reducible refine wpAny_isSubtype_exc hC ?_; rw [hcB]) | k_extra "wq")
  have n41 : e ≠ 41 := fun z => by rw [z, hC] at he; cases he
  generalize hh1 : (hp.update e (Obj.mapFields fun x => x.setIfInBounds 3 Value.none)).update e (Obj.mapFields fun x => x.setIfInBounds 4 (Value.bool true)) = h1
  have o1 : ∀ b, b ≠ e → h1.get? b = hp.get? b := fun b hb => by
    rw [← hh1, Heap.get?_update_other _ _ (Ne.symm hb), Heap.get?_update_other _ _ (Ne.symm hb)]
  have e1 : h1.get? e = some (madeO t true .none) := by
    rw [← hh1]
    have a1 := Heap.get?_update_self (Obj.mapFields fun x => x.setIfInBounds 3 Value.none) he rfl
    exact Heap.get?_update_self (Obj.mapFields fun x => x.setIfInBounds 4 (Value.bool true)) a1 rfl
  have hC1 := (o1 41 (Ne.symm n41)).trans hC
  have h01 := (o1 e0 (Ne.symm hne)).trans h0
  refine wpAny_loadPart_at hC1 (wpAny_pure ?_)
  dsimp only [excClassObj]
  rw [if_pos (beq_self_eq_true _)]
  refine wpAny_pure (wpAny_bind ?_)
  unfold setFlight
  refine wpAny_bind (wpAny_field (i := 1) (x := .none) e1 rfl rfl ?_)
  rw [if_neg (by decide)]
  refine wpAny_pure ?_
  unfold raiseNew
  refine wpAny_bind (wpAny_handled ?_)
  rw [hh]
  dsimp only
  rw [if_pos (by simpa using fun z => hne z.symm)]
  refine wpAny_bind (wpAny_holding (wpAny_runValue (codeAny_builtin entry_unchain ?_)))
  rw [Around.under_plainId plain_unchain _]
  unfold Builtin.«proto.unchain»
  dsimp only
  refine wpAny_bind (wpAny_field h01 hd0 hv0 ?_)
  rw [if_pos (beq_self_eq_true _)]
  refine wpAny_pure ?_
  unfold updateField
  refine wpAny_bind ?_
  refine wpAny_bind (wpAny_load e1 ?_)
  dsimp only
  rw [if_pos (by show 2 < 6; decide)]
  refine wpAny_update e1 (wpAny_throw (hE _ (fun b hb => (Heap.get?_update_other _ _ (Ne.symm hb)).trans (o1 b hb)) ?_))
  exact Heap.get?_update_self (Obj.mapFields (·.setIfInBounds 2 (Value.ref e0))) e1 rfl
end
structure FlyE (base G : Heap) (l : List Env) (e t : Addr) (x : Str) (h : Heap) : Prop where
  fly : ∃ B, (∀ b o, G.get? b = some o → b ∉ frs l → B.get? b = some o) ∧ base.StaysIn B ∧ HitAt base 53 19 4 qcr B ∧ Heap.FlyingW B l e (.ref 41) (.ref t) h ∧ B.get? t = none
  tup : ∃ k, h.TupAt t [.str x k]
  up : G.UpToSlots h
  ne : G.get? e = none
  nt : G.get? t = none
theorem leaveE1 {M : Model} {A : Around} {E : Value → Shared → Prop} {s' : Shared} {base g : Heap} {outer : List Env} {L e t : Addr} {m : Str → Option Value} {env : Env} {x : Str} {k : Tok} {vs : Array Value} {oe : Obj} {Q : Unit → Shared → Prop}
    (K : Below A base outer g) (F : Fr g L s'.heap m) (hf : env.frame = some L) (hk : env.scope.kind = .function) (ge : g.get? e = none) (gt : g.get? t = none)
    (he : s'.heap.get? e = some oe) (hc : oe.cls = .ref 41) (hd : oe.data = .fields vs) (h0 : vs[0]? = some (.ref t)) (h1 : vs[1]? = some .none)
    (ht : s'.heap.get? t = some { cls := .type "tuple", data := .seq #[.str x k] }) (hit : HitAt base 53 19 4 qcr s'.heap)
    {G : Heap} (tG : Turned (frs outer) G s'.heap) (eG : G.get? e = none) (uG : G.get? t = none) (LG : G.get? L = none) (hQ : ∀ h', FlyE base G outer e t x h' → Q () { s' with heap := h' }) : wpAny M (A.deeper env) (leaving env (.ref e)) Q E s' := by
  have K' := push' (env := env) K F hf hk
  have hene : e ∉ frs (env :: outer) := fun hm => by
    obtain ⟨_, o, ho, hnf⟩ := K'.frames.mem hm
    rw [he] at ho; injection ho with ho; subst ho; exact hnf vs hd
  have fresh : ∀ b, g.get? b = none → base.get? b = none := fun b hb => kts_none K.stays hb
  obtain ⟨oL, esL, epL, hL, hLd, _⟩ := F.ns
  have inB : ∀ b o, s'.heap.get? b = some o → b ≠ e → b ≠ t → b ∉ frs (env :: outer) → (hideAll s'.heap (e :: t :: frs (env :: outer))).get? b = some o := fun b o hb n1 n2 n3 => hideAll_get _ hb (fun q => by
    rcases List.mem_cons.mp q with q | q
    · exact n1 q
    · rcases List.mem_cons.mp q with q | q
      · exact n2 q
      · exact n3 q)
  have gfr : ∀ {G : Heap}, Turned (frs outer) G s'.heap → G.get? e = none → G.get? t = none → G.get? L = none → ∀ b o, G.get? b = some o → b ∉ frs outer → (hideAll s'.heap (e :: t :: frs (env :: outer))).get? b = some o := fun {G} tG eG uG LG b o hb nb =>
    inB b o (tG.other b o hb nb) (fun q => by rw [q, eG] at hb; cases hb) (fun q => by rw [q, uG] at hb; cases hb) (fun q => by
    have q : b ∈ (env :: outer).filterMap (·.frame) := q
    rw [List.filterMap_cons_some hf] at q
    rcases List.mem_cons.mp q with q | q
    · rw [q, LG] at hb; cases hb
    · exact nb q)
  have notfr : ∀ b o vs, s'.heap.get? b = some o → o.data = .fields vs → b ∉ frs (env :: outer) := fun b o vs hb hd hm => by
    obtain ⟨_, o', ho', hnf⟩ := K'.frames.mem hm
    rw [hb] at ho'; cases ho'; exact hnf _ hd
  obtain ⟨c', oc, vc, tc, a1, a2, a3, a4, a5⟩ := hit
  have hitB : HitAt base 53 19 4 qcr (hideAll s'.heap (e :: t :: frs (env :: outer))) := ⟨c', oc, vc, tc,
    inB _ _ a1 (fun q => by rw [q, he] at a1; cases a1; cases hc) (fun q => by rw [q, ht] at a1; cases a1) (notfr _ _ _ a1 rfl),
    inB _ _ a2 (fun q => by rw [q, he] at a2; cases a2; rw [hd] at a3; cases a3; rw [h1] at a4; cases a4) (fun q => by rw [q, ht] at a2; cases a2; cases a3) (notfr _ _ _ a2 a3), a3, a4, a5⟩
  have stB : base.StaysIn (hideAll s'.heap (e :: t :: frs (env :: outer))) := fun b o hb => gfr (Turned.of_stays F.keep) ge gt (kts_self F) b o (K.stays b o hb) (fun hm => by rw [(K.frames.mem hm).1] at hb; cases hb)
  refine wpAny_leaving_firstW (base := hideAll s'.heap (e :: t :: frs (env :: outer))) K'.stack (funFrames_hide K'.frames fun env' he' a ha => .tail _ (.tail _ (List.mem_filterMap.mpr ⟨env', he', ha⟩))) hf he (fun b o hb => of_hideAll _ hb) (hideAll_none _ (.head _)) hd h1 h0 fun h' hL' => ?_
  obtain ⟨k1, ⟨_, _, k2⟩, k3, k4⟩ := hL'
  refine hQ h' ⟨⟨_, gfr tG eG uG LG, stB, hitB, ⟨k1, hideAll_none _ (.head _), k2, hc ▸ k3⟩, hideAll_none _ (.tail _ (.head _))⟩, ⟨k, Heap.TupAt.of_slots ⟨_, _, ht, rfl, rfl⟩ k4⟩, Heap.UpToSlots.trans (fun b o hb _ => tG.up hb) k4, eG, uG⟩
theorem leaveE2 {M : Model} {A : Around} {E : Value → Shared → Prop} {s' : Shared} {base g G : Heap} {outer : List Env} {L e t : Addr} {m : Str → Option Value} {env : Env} {x : Str} {Q : Unit → Shared → Prop}
    (K : Below A base outer g) (F : Fr g L G m) (hf : env.frame = some L) (R : FlyE base G (env :: outer) e t x s'.heap)
    (hQ : ∀ h', FlyE base g outer e t x h' → Q () { s' with heap := h' }) : wpAny M (A.deeper env) (leaving env (.ref e)) Q E s' := by
  obtain ⟨⟨B, b1, b2, b3, b4, b5⟩, ⟨k, hk⟩, hu, hne, hnt⟩ := R
  refine wpAny_leaves_onW (Around.frames_deeper K.stack) hf b4 fun h' x1 x2 => hQ h' ⟨⟨B, fun b o q nb => b1 b o (F.keep b o q) (fun hm => ?_), b2, b3, x1, b5⟩, ⟨k, hk.of_slots x2⟩, (Heap.UpToSlots.of_keeps F.keep).trans (hu.trans x2), kts_none F.keep hne, kts_none F.keep hnt⟩
  have hm : b ∈ (env :: outer).filterMap (·.frame) := hm
  rw [List.filterMap_cons_some hf] at hm
  rcases List.mem_cons.mp hm with z | z
  · rw [z, kts_self F] at q; cases q
  · exact nb z
end Mine
end
section
open PySem PySem.Spec PySem.Calls PyProof.Rows PySem.W
set_option maxHeartbeats 8000000
namespace Mine
section
variable {prog : Program} {w : World} {A : Around} {E : Value → Shared → Prop} {s : Shared} {env : Env}
variable {nm q : Str} {N : Addr} {bs bm : List Value} {hdct : Bool} {sn : List Str} {sub : List Value} {ab : Bool} {col : Option Bool} {dd : Option Addr} {k0 k1 k2 k3 k5 : Option Value} {newId : String}
theorem exec_raise {x : Expr} {pos : Pos} {Q : Flow → Shared → Prop} (hh : A.handled = none) (hbase : bm.contains (.type "BaseException") = true)
    (h : wpAny (model prog w) A (eval x env) (fun v s₁ => ∃ e t, v = .ref e ∧ s₁.heap.get? 41 = some (excClassObj nm q 41 N bs bm hdct sn sub ab col dd k0 k1 k2 k3 k5 newId) ∧ s₁.heap.get? e = some (madeO t false .none) ∧ E (.ref e) s₁) E s) :
    wpAny (model prog w) A (exec (.Raise (some x) none pos) env) Q E s := by
  rw [arm_exec_Raise]
  refine wpAny_bind (wpAny_standAt (wpAny_raiseStmt_made_sub (C := 41) (nm := nm) (q := q) (N := N) (bs := bs) (bm := bm) (hdct := hdct) (sn := sn) (sub := sub) (ab := ab) (col := col) (dd := dd) (k0 := k0) (k1 := k1) (k2 := k2) (k3 := k3) (k5 := k5) (newId := newId) hbase hh ?_))
  exact wpAny_bind (wpAny_mono h (fun v s₃ h₃ => wpAny_bind (wpAny_standAt (wpAny_pure h₃))) fun _ _ x => x)
theorem exec_raise_none {x : Expr} {cp : Pos} {ck : Nat} {pos : Pos} {e0 : Addr} {Q : Flow → Shared → Prop} (hh : A.handled = some (.ref e0)) (hbase : bm.contains (.type "BaseException") = true)
    (h : wpAny (model prog w) A (eval x env) (fun v s₁ => ∃ e t oe0 vs0, v = .ref e ∧ e ≠ e0 ∧ s₁.heap.get? 41 = some (excClassObj nm q 41 N bs bm hdct sn sub ab col dd k0 k1 k2 k3 k5 newId) ∧ s₁.heap.get? e = some (madeO t false .none) ∧
      s₁.heap.get? e0 = some oe0 ∧ oe0.data = .fields vs0 ∧ vs0[2]? = some .none ∧
      ∀ h', (∀ b, b ≠ e → h'.get? b = s₁.heap.get? b) → h'.get? e = some (madeO t true (.ref e0)) → E (.ref e) { s₁ with heap := h' }) E s) :
    wpAny (model prog w) A (exec (.Raise (some x) (some (.Constant .none ck cp)) pos) env) Q E s := by
  rw [arm_exec_Raise]
  refine wpAny_bind (wpAny_standAt (raise_none (nm := nm) (q := q) (N := N) (bs := bs) (bm := bm) (hdct := hdct) (sn := sn) (sub := sub) (ab := ab) (col := col) (dd := dd) (k0 := k0) (k1 := k1) (k2 := k2) (k3 := k3) (k5 := k5) (newId := newId) hh hbase ?_ ?_))
  · intro s' Q' hq
    refine wpAny_bind (PySem.wpAny_mono (Q := fun v s₁ => v = .none ∧ s₁ = s') ?_ (fun v s₁ e => by obtain ⟨rfl, rfl⟩ := e; exact wpAny_bind (wpAny_standAt (wpAny_pure hq))) fun _ _ x => x)
    walk1
    exact ⟨rfl, rfl⟩
  · exact wpAny_bind (wpAny_mono h (fun v s₃ h₃ => wpAny_bind (wpAny_standAt (wpAny_pure h₃))) fun _ _ x => x)
end
section
variable {prog : Program} {w w' : World} {A : Around} {E : Value → Shared → Prop} {s : Shared} {env : Env}
theorem exec_raiseK {x : Expr} {pos : Pos} {Q : Flow → Shared → Prop} (hh : A.handled = none)
    (h : wpAny (model prog w') A (eval x env) (fun v s₁ => ∃ e t, v = .ref e ∧ (Mine.hd0.heap_1 w.params).In s₁.heap ∧ s₁.heap.get? e = some (madeO t false .none) ∧ E (.ref e) s₁) E s) :
    wpAny (model prog w') A (exec (.Raise (some x) none pos) env) Q E s := by
  have hK : (fun (_ : OpenLaw) (_ : Params → Frag) => True) PySem.Challenge.rw_rx0047_01 Mine.hd0.heap_1 := by (k_fill; trivial)
  refine' exec_raise hh PySem.F.excBase_ValueError.hasBase (PySem.wpAny_mono h (fun v s₁ hb => ?body) fun _ _ x => x)
  case body =>
    obtain ⟨e, t, rfl, X, he, hE⟩ := hb
    exact ⟨e, t, rfl, X 41 _ (by k_is), he, hE⟩
theorem exec_raise_noneK {x : Expr} {cp : Pos} {ck : Nat} {pos : Pos} {e0 : Addr} {Q : Flow → Shared → Prop} (hh : A.handled = some (.ref e0))
    (h : wpAny (model prog w') A (eval x env) (fun v s₁ => ∃ e t oe0 vs0, v = .ref e ∧ e ≠ e0 ∧ (Mine.hd0.heap_1 w.params).In s₁.heap ∧ s₁.heap.get? e = some (madeO t false .none) ∧
      s₁.heap.get? e0 = some oe0 ∧ oe0.data = .fields vs0 ∧ vs0[2]? = some .none ∧
      ∀ h', (∀ b, b ≠ e → h'.get? b = s₁.heap.get? b) → h'.get? e = some (madeO t true (.ref e0)) → E (.ref e) { s₁ with heap := h' }) E s) :
    wpAny (model prog w') A (exec (.Raise (some x) (some (.Constant .none ck cp)) pos) env) Q E s := by
  have hK : (fun (_ : OpenLaw) (_ : Params → Frag) => True) PySem.Challenge.rw_rx0047_01 Mine.hd0.heap_1 := by (k_fill; trivial)
  refine' exec_raise_none hh PySem.F.excBase_ValueError.hasBase (PySem.wpAny_mono h (fun v s₁ hb => ?body) fun _ _ x => x)
  case body =>
    obtain ⟨e, t, oe0, vs0, rfl, hne, X, he, r⟩ := hb
    exact ⟨e, t, oe0, vs0, rfl, hne, X 41 _ (by k_is), he, r⟩
end
end Mine
end
section
open PySem PySem.Spec PySem.Calls PyProof.Rows PySem.W
set_option maxHeartbeats 8000000
namespace Mine
section
variable {prog : Program} {w : World} {A : Around} {E : Value → Shared → Prop} {Q : Flow → Shared → Prop} {s : Shared} {env : Env} {h₀ : Heap} {L : Addr}
end
namespace EwhileUp
noncomputable def Pk9 (prog : Program) (w : World) (A : Around) (E : Value → Shared → Prop) (Q : Flow → Shared → Prop) (s : Shared) (env : Env) (h₀ : Heap) (L : Addr) (i : Str) (test : Expr) (body : List Stmt) (pos : Pos) (m : Str → Option Value) (news : List (Addr × Obj)) (k₀ : Int) (K : Int) (t₀ : Tok) : Prop := ∀ (F : Fr h₀ L s.heap m) (Nw : News h₀ L s.heap news) (hmi : m i = some (.int k₀ t₀)) (hK : k₀ ≤ K) (gtest : ∀ k t h₁ tk₁, k₀ ≤ k → k ≤ K → Fr h₀ L h₁ (bindM m i (some (.int k t))) → News h₀ L h₁ news →
      wpAny (model prog w) A (isTrue test env (eval test env)) (fun b s₂ => b = decide (k < K) ∧ Keeps { s with heap := h₁, toks := tk₁ } s₂) E { s with heap := h₁, toks := tk₁ }) (gturn : ∀ k t h₁ tk₁, k₀ ≤ k → k < K → Fr h₀ L h₁ (bindM m i (some (.int k t))) → News h₀ L h₁ news →
      wpAny (model prog w) A (execs body env) (CntStep h₀ L s m i news (k + 1)) E { s with heap := h₁, toks := tk₁ }) (done : ∀ t h' tk, Fr h₀ L h' (bindM m i (some (.int K t))) → News h₀ L h' news → Q .next { s with heap := h', toks := tk }) (hE : PassesOwn (model prog w) A env E),
    wpAny (model prog w) A (exec (.While test body [] pos) env) Q E s
noncomputable def Pu9 (x : ((((((Program) × (World)) × (Around)) × ((Value → Shared → Prop) × (Flow → Shared → Prop))) × (((Shared) × (Env)) × ((Heap) × (Addr)))) × (((((Str) × (Expr)) × (List Stmt)) × ((Pos) × (Str → Option Value))) × (((List (Addr × Obj)) × (Int)) × ((Int) × (Tok)))))) : Prop := Pk9 x.1.1.1.1.1 x.1.1.1.1.2 x.1.1.1.2 x.1.1.2.1 x.1.1.2.2 x.1.2.1.1 x.1.2.1.2 x.1.2.2.1 x.1.2.2.2 x.2.1.1.1.1 x.2.1.1.1.2 x.2.1.1.2 x.2.1.2.1 x.2.1.2.2 x.2.2.1.1 x.2.2.1.2 x.2.2.2.1 x.2.2.2.2
noncomputable def ck9 : {x : _ // Pu9 x → ∀ y, Pu9 y} := Classical.choice (drink (by repeat (first | exact neS | exact neW | exact neA | refine ne2 ?_ ?_ | exact ⟨default⟩ | exact ⟨fun _ _ => True⟩ | exact ⟨fun _ => True⟩ | exact ⟨fun _ => default⟩ | exact ⟨fun _ _ => default⟩)))
noncomputable def prog : Program := ck9.1.1.1.1.1.1
noncomputable def w : World := ck9.1.1.1.1.1.2
noncomputable def A : Around := ck9.1.1.1.1.2
noncomputable def E : Value → Shared → Prop := ck9.1.1.1.2.1
noncomputable def Q : Flow → Shared → Prop := ck9.1.1.1.2.2
noncomputable def s : Shared := ck9.1.1.2.1.1
noncomputable def env : Env := ck9.1.1.2.1.2
noncomputable def h₀ : Heap := ck9.1.1.2.2.1
noncomputable def L : Addr := ck9.1.1.2.2.2
noncomputable def i : Str := ck9.1.2.1.1.1.1
noncomputable def test : Expr := ck9.1.2.1.1.1.2
noncomputable def body : List Stmt := ck9.1.2.1.1.2
noncomputable def pos : Pos := ck9.1.2.1.2.1
noncomputable def m : Str → Option Value := ck9.1.2.1.2.2
noncomputable def news : List (Addr × Obj) := ck9.1.2.2.1.1
noncomputable def k₀ : Int := ck9.1.2.2.1.2
noncomputable def K : Int := ck9.1.2.2.2.1
noncomputable def t₀ : Tok := ck9.1.2.2.2.2
theorem kk9 : Pk9 prog w A E Q s env h₀ L i test body pos m news k₀ K t₀ := by
  intro F Nw hmi hK gtest gturn done hE
  have hm0 : m = bindM m i (some (.int k₀ t₀)) := by rw [← hmi]; exact bindM_start m i
  refine While_inv (fun n m₁ news₁ => ∃ k t, k₀ ≤ k ∧ k ≤ K ∧ m₁ = bindM m i (some (.int k t)) ∧ news = news₁ ∧ n = (K - k).toNat)
    F Nw ⟨k₀, t₀, Int.le_refl _, hK, hm0, rfl, rfl⟩ ?_
  rintro n m₁ news₁ h₁ tk₁ F₁ N₁ ⟨k, t, hk, hkK, rfl, rfl, rfl⟩
  refine wpAny_mono (gtest k t h₁ tk₁ hk hkK F₁ N₁) (fun b s₂ h₂ => ?_) fun _ _ e => e
  obtain ⟨rfl, h', tk, rfl, keep⟩ := h₂
  have F₂ := F₁.keeps keep
  have N₂ : News h₀ L h' news := fun p hp => ⟨keep _ _ (N₁ p hp).1, (N₁ p hp).2⟩
  by_cases hlt : k < K
  · rw [decide_eq_true hlt, if_pos rfl]
    refine wpAny_mono (gturn k t h' tk hk hlt F₂ N₂) (fun f s₃ h₃ => ?_) fun _ _ e => e
    obtain ⟨rfl, h'', tk'', t', rfl, F₃, N₃⟩ := h₃
    exact WhileStep.intro F₃ N₃ (n' := (K - (k + 1)).toNat) (zturn hlt) ⟨k + 1, t', Int.le_trans hk (Int.le_of_lt (Int.lt_succ k)), Int.add_one_le_of_lt hlt, rfl, rfl, rfl⟩
  · rw [decide_eq_false hlt, if_neg (by simp)]
    obtain rfl : k = K := Int.le_antisymm hkK (Int.not_lt.mp hlt)
    exact done t h' tk F₂ N₂
end EwhileUp
section
variable {prog : Program} {w : World} {A : Around} {E : Value → Shared → Prop} {Q : Flow → Shared → Prop} {s : Shared} {env : Env} {h₀ : Heap} {L : Addr}
theorem whileUp {i : Str} {test : Expr} {body : List Stmt} {pos : Pos} {m : Str → Option Value} {news : List (Addr × Obj)} {k₀ K : Int} {t₀ : Tok}
    (F : Fr h₀ L s.heap m) (Nw : News h₀ L s.heap news) (hmi : m i = some (.int k₀ t₀)) (hK : k₀ ≤ K)
    (gtest : ∀ k t h₁ tk₁, k₀ ≤ k → k ≤ K → Fr h₀ L h₁ (bindM m i (some (.int k t))) → News h₀ L h₁ news →
      wpAny (model prog w) A (isTrue test env (eval test env)) (fun b s₂ => b = decide (k < K) ∧ Keeps { s with heap := h₁, toks := tk₁ } s₂) E { s with heap := h₁, toks := tk₁ })
    (gturn : ∀ k t h₁ tk₁, k₀ ≤ k → k < K → Fr h₀ L h₁ (bindM m i (some (.int k t))) → News h₀ L h₁ news →
      wpAny (model prog w) A (execs body env) (CntStep h₀ L s m i news (k + 1)) E { s with heap := h₁, toks := tk₁ })
    (done : ∀ t h' tk, Fr h₀ L h' (bindM m i (some (.int K t))) → News h₀ L h' news → Q .next { s with heap := h', toks := tk })
    (hE : PassesOwn (model prog w) A env E := by passes_own) :
    wpAny (model prog w) A (exec (.While test body [] pos) env) Q E s :=
  EwhileUp.ck9.2 EwhileUp.kk9 (((((prog, w), A), (E, Q)), ((s, env), (h₀, L))), ((((i, test), body), (pos, m)), ((news, k₀), (K, t₀)))) F Nw hmi hK gtest gturn done hE
end
end Mine
end
section
open PySem PySem.Spec PySem.Calls PyProof.Rows PySem.W
set_option maxHeartbeats 8000000
namespace Mine
section
variable {w : World} {base h₀ : Heap} {outer : List Env} {L : Addr} {m : Str → Option Value} {env : Env} {news : List (Addr × Obj)}
  {hd : Option Value} {dp un : Nat} {gd : Option (List Code)} {s : Shared} {Q E : Value → Shared → Prop}
theorem stopC {M : Model} {A : Around} {f : Value} {as : List Value} {kw : List (Str × Value)} {Q : Value → Shared → Prop} {E : Value → Shared → Prop} {s : Shared} (h : Hold (wpAny M A (call f as kw) Q E s)) : wpAny M A (call f as kw) Q E s := h
theorem stopS {M : Model} {A : Around} {st : Stmt} {env : Env} {Q : Flow → Shared → Prop} {E : Value → Shared → Prop} {s : Shared} (h : Hold (wpAny M A (exec st env) Q E s)) : wpAny M A (exec st env) Q E s := h
noncomputable def TabS (P line col : Nat) (qual : Str) (o : Obj) (c' : Addr) (oc : Obj) : Prop := (o = tabObj #[] ∧ c' = P ∧ oc = o) ∨ (o = tab3 line col c' ∧ ∃ vs t, oc.data = .fields vs ∧ vs[1]? = some (.str qual t))
theorem kw5 : True := by
  (k_with "9call builtin:str.index" => ((fail_if_success first | have := @Mine.e9s3 | fail); with_unfolding_all (first | with_reducible refine r_index rfl (by omega) hwne ?yes ?no | refine r_index rfl (by omega) hwne ?yes ?no)))
  (k_with "9getMethod ref" => ((fail_if_success first | have := @Mine.e9s3 | fail); with_unfolding_all walk_at "nm"; (first | with_reducible refine fz_get (o := ob) ?gm hob ?_ | refine fz_get (o := ob) ?gm hob ?_); case gm => exact N'.get (by k_mem)))
  (k_with "9call builtin:frozenset.isdisjoint" => ((fail_if_success first | have := @Mine.e9s3 | fail); with_unfolding_all walk_at "nm"; (first | with_reducible refine fz_disjoint rfl ?gm hob ?_ | refine fz_disjoint rfl ?gm hob ?_); (case gm => exact N'.get (by k_mem)); intro h' tk' hk'; have F' := F'.keeps hk'; have N' := backN N' hk'))
  (k_with "9compareOp NotIn str ref" => ((fail_if_success first | have := @Mine.e9s3 | fail); with_unfolding_all walk_at "nm"; (first | with_reducible refine fz_notin (o := ob) ?gm hob ?_ | refine fz_notin (o := ob) ?gm hob ?_); case gm => exact N'.get (by k_mem)))
  (k_with "9subscriptTail Name Slice str ref" => ((fail_if_success first | have := @Mine.e9s3 | fail); with_unfolding_all walk_at "nm"; (first | with_reducible refine rs_ss F' N' h0 (by omega) (by omega) ?_ | refine rs_ss F' N' h0 (by omega) (by omega) ?_); intro h' t' k' F' N'))
  (k_with "9subscriptTail Name Name str int" => ((fail_if_success first | have := @Mine.e9s3 | fail); with_unfolding_all (first | with_reducible refine r_item (by omega) hc (by omega) ?_ | refine r_item (by omega) hc (by omega) ?_)))
  (k_with "9call ref" => ((fail_if_success first | have := @Mine.e9s3 | fail); with_unfolding_all (first | with_reducible refine stopC ?_ | refine stopC ?_)))
  (k_with "9exec While" => ((fail_if_success first | have := @Mine.e9s3 | fail); with_unfolding_all (first | with_reducible refine stopS ?_ | refine stopS ?_)))
  (k_with "9exec Raise some none" => ((fail_if_success first | have := @Mine.e9s3 | fail); with_unfolding_all (first | with_reducible refine stopS ?_ | refine stopS ?_)))
  (k_with "9exec Raise some" => ((fail_if_success first | have := @Mine.e9s3 | fail); with_unfolding_all (first | with_reducible refine stopS ?_ | refine stopS ?_)))
  (k_with "9exec Raise" => ((fail_if_success first | have := @Mine.e9s3 | fail); with_unfolding_all (first | with_reducible refine stopS ?_ | refine stopS ?_)))
  trivial
noncomputable def tailV (src : List Nat) (p np : Nat) : Sum Str Nat :=
  if ((src.take np).drop p).contains 35 then .inl (errMsg (Str.empty ++ Str.ofString "Found invalid character " ++ reprText (S [35])) src.length ((p + ((src.take np).drop p).idxOf 35 : Nat) : Int)) else .inr np
noncomputable def skipV (src x : List Nat) (p : Nat) (strict : Bool) : Sum Str Nat :=
  match fnd x (src.drop p) with
  | none => if strict then .inl (errMsg (Str.empty ++ Str.ofString "Expected " ++ reprText (S x)) src.length src.length) else tailV src p src.length
  | some i => tailV src p (p + i)
theorem fnd_le {x : List Nat} : ∀ {l : List Nat} {i : Nat}, fnd x l = some i → i ≤ l.length
  | [], i, h => by
    unfold fnd at h
    split at h <;> cases h
    exact Nat.le_refl _
  | c :: l, i, h => by
    unfold fnd at h
    split at h
    · cases h; exact Nat.zero_le _
    · cases q : fnd x l with
      | none => rw [q] at h; cases h
      | some j => rw [q] at h; cases h; exact Nat.succ_le_succ (fnd_le q)
theorem fnd_lt {x : List Nat} (hx : x ≠ []) : ∀ {l : List Nat} {i : Nat}, fnd x l = some i → i < l.length
  | [], i, h => by
    unfold fnd at h
    split at h
    · rename_i hp
      exact absurd (by simpa using List.isPrefixOf_iff_prefix.mp hp) hx
    · cases h
  | c :: l, i, h => by
    unfold fnd at h
    split at h
    · cases h; exact Nat.zero_lt_succ _
    · cases q : fnd x l with
      | none => rw [q] at h; cases h
      | some j => rw [q] at h; cases h; exact Nat.succ_lt_succ (fnd_lt hx q)
theorem tabs_in {P line col : Nat} {qual : Str} {o oc : Obj} {c' : Addr} {news : List (Addr × Obj)} (h : TabS P line col qual o c' oc) (h1 : (P, o) ∈ news) (h2 : (c', oc) ∈ news) : (P, tabObj #[]) ∈ news ∨ HitIn P line col qual news := by
  rcases h with ⟨rfl, rfl, rfl⟩ | ⟨rfl, vs, t, h3, h4⟩
  · exact .inl h1
  · exact .inr ⟨c', oc, vs, t, h1, h2, h3, h4⟩
theorem back53 {g h h' : Heap} {L : Addr} {m : Str → Option Value} {news : List (Addr × Obj)} {o : Obj} (F : Fr g L h m) (N : News g L h news) (hm : (53, o) ∈ news) (k : (hideAll h [53]).StaysIn h') : Fr g L h' m := by
  have n53 : ∀ b x, g.get? b = some x → b ∉ [53] := fun b x e q => by
    rw [List.mem_singleton.mp q, (N _ hm).2.2] at e; cases e
  obtain ⟨oL, es, ep, hL, r⟩ := F.ns
  exact ⟨⟨oL, es, ep, k _ _ (hideAll_get _ hL fun q => (N _ hm).2.1 (List.mem_singleton.mp q).symm), r⟩, fun b x e => k _ _ (hideAll_get _ (F.keep _ _ e) (n53 b x e)), F.above⟩
theorem keep53 {g h h' : Heap} {L : Addr} {news : List (Addr × Obj)} {p : Addr × Obj} (N : News g L h news) (k : (hideAll h [53]).StaysIn h') (hm : p ∈ news) (hn : p.1 ≠ 53) : h'.get? p.1 = some p.2 :=
  k _ _ (hideAll_get _ (N _ hm).1 fun q => hn (List.mem_singleton.mp q))
theorem turnedG {G g g' hc h7 h8 : Heap} {tb : List (Addr × Obj)} {fs : List Addr} {e1 : Addr} (hg : g = hideAll G (tb.map (·.1))) (NG : ∀ p ∈ tb, G.get? p.1 = some p.2) (Nc : ∀ p ∈ tb, hc.get? p.1 = some p.2) (kt : KtsTurn fs g g') (Fk : g'.StaysIn hc)
    (k7 : (hideAll hc [53]).StaysIn h7) (o8 : ∀ b, b ≠ e1 → h8.get? b = h7.get? b) (ne1 : hc.get? e1 = none) : Turned fs (hideAll G [53]) h8 := by
  have go : ∀ b x, hc.get? b = some x → b ≠ 53 → h8.get? b = some x := fun b x e n => by
    rw [o8 b (fun q => by rw [q, ne1] at e; cases e)]
    exact k7 _ _ (hideAll_get _ e fun q => n (List.mem_singleton.mp q))
  have n53 : ∀ b x, (hideAll G [53]).get? b = some x → b ≠ 53 := fun b x e q => by
    rw [q, hideAll_none [53] (List.mem_singleton.mpr rfl)] at e; cases e
  have t := Turned.of_turn kt Fk
  constructor
  · intro b x e nb
    have n := n53 b x e
    have e := of_hideAll _ e
    by_cases z : b ∈ tb.map (·.1)
    · obtain ⟨p, hp, rfl⟩ := List.mem_map.mp z
      rw [NG p hp] at e; cases e
      exact go _ _ (Nc p hp) n
    · exact go _ _ (t.other _ _ (hg ▸ hideAll_get _ e z) nb) n
  · intro b x e hb
    have n := n53 b x e
    have e := of_hideAll _ e
    by_cases z : b ∈ tb.map (·.1)
    · obtain ⟨p, hp, rfl⟩ := List.mem_map.mp z
      rw [NG p hp] at e; cases e
      exact ⟨p.2.slots, go _ _ (Nc p hp) n⟩
    · obtain ⟨sl, hs⟩ := t.frame _ _ (hg ▸ hideAll_get _ e z) hb
      exact ⟨sl, go _ _ hs n⟩
theorem Fr_keeps' {g h h' : Heap} {L : Addr} {m : Str → Option Value} {e : Addr} (F : Fr g L h m) (o : ∀ b, b ≠ e → h'.get? b = h.get? b) (hn : g.get? e = none) (hL : L ≠ e) : Fr g L h' m := by
  obtain ⟨oL, es, ep, h1, r⟩ := F.ns
  exact ⟨⟨oL, es, ep, (o L hL).trans h1, r⟩, fun b x q => (o b (fun z => by rw [z, hn] at q; cases q)).trans (F.keep _ _ q), F.above⟩
theorem HitAt.but {g0 : Heap} {P line col : Nat} {qual : Str} {h h' : Heap} {e : Addr} {t : Addr} {b : Bool} {c : Value} (x : HitAt g0 P line col qual h) (k : ∀ b, b ≠ e → h'.get? b = h.get? b) (he : h.get? e = some (madeO t b c)) : HitAt g0 P line col qual h' := by
  obtain ⟨c', oc, vs, t', h1, h2, h3, h4, h5⟩ := x
  refine ⟨c', oc, vs, t', (k _ fun q => ?_).trans h1, (k _ fun q => ?_).trans h2, h3, h4, h5⟩
  · rw [q, he] at h1; cases h1
  · rw [q, he] at h2; cases h2; cases h3; cases h4
theorem turn_none {fs : List Addr} {g g' : Heap} {b : Addr} (t : KtsTurn fs g g') (h : g'.get? b = none) : g.get? b = none := by
  cases q : g.get? b with
  | none => rfl
  | some o => obtain ⟨sl, hs⟩ := t.up q; rw [h] at hs; cases hs
theorem noneG {G g : Heap} {tb : List (Addr × Obj)} {b : Addr} (hg : g = hideAll G (tb.map (·.1))) (ht : ∀ p ∈ tb, p.1 ≠ b) (gb : g.get? b = none) : (hideAll G [53]).get? b = none := by
  cases q : (hideAll G [53]).get? b with
  | none => rfl
  | some o =>
    have e := of_hideAll _ q
    have := hideAll_get (tb.map (·.1)) e (fun z => by obtain ⟨p, hp, e⟩ := List.mem_map.mp z; exact ht p hp e)
    rw [← hg, gb] at this; cases this
theorem turnedF {G g g' hc : Heap} {tb : List (Addr × Obj)} {fs : List Addr} (hg : g = hideAll G (tb.map (·.1))) (NG : ∀ p ∈ tb, G.get? p.1 = some p.2) (Nc : ∀ p ∈ tb, hc.get? p.1 = some p.2) (kt : KtsTurn fs g g') (Fk : g'.StaysIn hc) : Turned fs G hc := by
  have t := Turned.of_turn kt Fk
  constructor
  · intro b x e nb
    by_cases z : b ∈ tb.map (·.1)
    · obtain ⟨p, hp, rfl⟩ := List.mem_map.mp z
      rw [NG p hp] at e; cases e
      exact Nc p hp
    · exact t.other _ _ (hg ▸ hideAll_get _ e z) nb
  · intro b x e hb
    by_cases z : b ∈ tb.map (·.1)
    · obtain ⟨p, hp, rfl⟩ := List.mem_map.mp z
      rw [NG p hp] at e; cases e
      exact ⟨p.2.slots, Nc p hp⟩
    · exact t.frame _ _ (hg ▸ hideAll_get _ e z) hb
theorem test35 {c : Nat} {k K : Int} (h : c = 35 ↔ ¬ k < K) : (!decide (S [c] = S [35])) = decide (k < K) := by
  have e : S [c] = S [35] ↔ c = 35 := ⟨fun q => by simpa using S_inj q, fun q => by rw [q]⟩
  by_cases hc : c = 35
  · rw [decide_eq_true (e.mpr hc), decide_eq_false (h.mp hc)]; rfl
  · rw [decide_eq_false (fun q => hc (e.mp q)), decide_eq_true (Decidable.not_not.mp fun q => hc (h.mpr q))]; rfl
theorem idx_get {src : List Nat} {p np j : Nat} (h : ((src.take np).drop p).contains 35 = true) (hj : ((src.take np).drop p).idxOf 35 = j) : p + j < src.length ∧ ∀ k, k ≤ j → ∃ c, src[p + k]? = some c ∧ (c = 35 ↔ k = j) := by
  have hm : 35 ∈ (src.take np).drop p := by simpa using h
  have hlt := List.idxOf_lt_length_of_mem hm
  rw [hj] at hlt
  have hl : ((src.take np).drop p).length ≤ src.length - p := by rw [List.length_drop]; exact Nat.sub_le_sub_right (List.length_take_le' ..) p
  have hg : ∀ k (hk : k < ((src.take np).drop p).length), src[p + k]? = some ((src.take np).drop p)[k] := fun k hk => by
    rw [List.getElem_drop, List.getElem_take, List.getElem?_eq_getElem (Nat.add_lt_of_lt_sub' (Nat.lt_of_lt_of_le hk hl))]
  refine ⟨Nat.add_lt_of_lt_sub' (Nat.lt_of_lt_of_le hlt hl), fun k hk => ⟨_, hg k (Nat.lt_of_le_of_lt hk hlt), ⟨fun e => ?_, fun e => ?_⟩⟩⟩
  · have : List.idxOf 35 ((src.take np).drop p) ≤ k := by
      refine Nat.le_of_not_lt fun q => ?_
      have := List.not_of_lt_findIdx (p := (· == 35)) (xs := (src.take np).drop p) (i := k) q
      simp [e] at this
    exact Nat.le_antisymm hk (hj ▸ this)
  · subst e
    subst hj
    exact List.getElem_idxOf hlt
theorem idx_int {src : List Nat} {pos : Int} {np j : Nat} (h : ((src.take np).drop pos.toNat).contains 35 = true) (hj : ((src.take np).drop pos.toNat).idxOf 35 = j) (h0 : 0 ≤ pos) {k : Int} (hk1 : pos ≤ k) (hk2 : k ≤ pos + j) :
    ∃ c, src[k.toNat]? = some c ∧ (c = 35 ↔ ¬ k < pos + j) := by
  obtain ⟨p, rfl⟩ := Int.eq_ofNat_of_zero_le h0
  obtain ⟨i, rfl⟩ := Int.le.dest hk1
  have hi : i ≤ j := Int.ofNat_le.mp (Int.le_of_add_le_add_left hk2)
  obtain ⟨c, h1, h2⟩ := (idx_get h hj).2 i hi
  refine ⟨c, h1, h2.trans ⟨fun e => ?_, fun e => ?_⟩⟩
  · subst e; exact Int.lt_irrefl _
  · exact Nat.le_antisymm hi (Int.ofNat_le.mp (Int.le_of_add_le_add_left (Int.not_lt.mp e)))
theorem C_skip {src x : List Nat} {pos : Int} {strict : Bool} {t0 t1 t2 : Tok} {b c' : Addr} {ob o oc : Obj} (am : Amb w base h₀ L m env outer news s.heap) (hdp : dp < 400) (hun : un < 5000)
    (XB : (Mine.hd0.heap_1 w.params).In base) (hTB : Ex5 fun p loose mean mg mb => Top p loose mean mg mb base)
    (hC : CodeHd base 57 53) (hm1 : (53, o) ∈ news) (hm2 : (c', oc) ∈ news) (hT : TabS 53 19 4 qcr o c' oc) (hb : (b, ob) ∈ news) (hob : FObj PySem.Challenge.rw_rx0047_01.prog w ob)
    (h0 : 0 ≤ pos) (h1 : pos ≤ 200) (h2 : src.length ≤ 100) (h3 : x.length ≤ 2) (hwne : x ≠ []) (h4 : 10 ∉ src) (hrl : (reprText (S x)).length ≤ 500)
    (hret : ∀ (np : Nat) t' h' tk, Turned (frs (env :: outer)) s.heap h' → skipV src x pos.toNat strict = .inr np → Q (.int np t') { s with heap := h', toks := tk })
    (hE : ∀ e t y h' tk, FlyE base (hideAll s.heap [53]) (env :: outer) e t y h' → skipV src x pos.toNat strict = .inl y → E (.ref e) { s with heap := h', toks := tk }) :
    wpAny (MD w) (ar none dp un gd env outer) (call (.ref 51) [.str (S src) t0, .int pos t1, .str (S x) t2] [(Str.ofString "error_on", .ref b), (Str.ofString "error_on_eof", .bool strict)]) Q E s := by
  (try revert hE)
  (try revert hret)
  (try revert hrl)
  (try revert h4)
  (try revert hwne)
  (try revert h3)
  (try revert h2)
  (try revert h1)
  (try revert h0)
  (try revert hob)
  (try revert hb)
  (try revert hT)
  (try revert hm2)
  (try revert hm1)
  (try revert hC)
  (try revert hTB)
  (try revert XB)
  (try revert hun)
  (try revert hdp)
  (try revert am)
  (repeat ((rename (_ : Prop) => z9); (fail_if_success (have : Clm := z9)); revert z9))
  revert w base h₀ outer L m env news dp un gd s Q E src x pos strict t0 t1 t2 b c' ob o oc
  (refine no_implicit_lambda% (close26 64900 ?ne_z1 (R := ?R_z1) ((?nw_z1 : ∀ w base h₀ outer L m env news dp un gd s Q E src x pos strict t0 t1 t2 b c' ob o oc, ?R_z1 w base h₀ outer L m env news dp un gd s Q E src x pos strict t0 t1 t2 b c' ob o oc) (Mine.cl 64900 ?ne_z1 (un26 ?R_z1)).1.1.1.1.1 (Mine.cl 64900 ?ne_z1 (un26 ?R_z1)).1.1.1.1.2 (Mine.cl 64900 ?ne_z1 (un26 ?R_z1)).1.1.1.2.1 (Mine.cl 64900 ?ne_z1 (un26 ?R_z1)).1.1.1.2.2 (Mine.cl 64900 ?ne_z1 (un26 ?R_z1)).1.1.2.1.1 (Mine.cl 64900 ?ne_z1 (un26 ?R_z1)).1.1.2.1.2 (Mine.cl 64900 ?ne_z1 (un26 ?R_z1)).1.1.2.2 (Mine.cl 64900 ?ne_z1 (un26 ?R_z1)).1.2.1.1.1 (Mine.cl 64900 ?ne_z1 (un26 ?R_z1)).1.2.1.1.2 (Mine.cl 64900 ?ne_z1 (un26 ?R_z1)).1.2.1.2 (Mine.cl 64900 ?ne_z1 (un26 ?R_z1)).1.2.2.1.1 (Mine.cl 64900 ?ne_z1 (un26 ?R_z1)).1.2.2.1.2 (Mine.cl 64900 ?ne_z1 (un26 ?R_z1)).1.2.2.2 (Mine.cl 64900 ?ne_z1 (un26 ?R_z1)).2.1.1.1.1 (Mine.cl 64900 ?ne_z1 (un26 ?R_z1)).2.1.1.1.2 (Mine.cl 64900 ?ne_z1 (un26 ?R_z1)).2.1.1.2.1 (Mine.cl 64900 ?ne_z1 (un26 ?R_z1)).2.1.1.2.2 (Mine.cl 64900 ?ne_z1 (un26 ?R_z1)).2.1.2.1.1 (Mine.cl 64900 ?ne_z1 (un26 ?R_z1)).2.1.2.1.2 (Mine.cl 64900 ?ne_z1 (un26 ?R_z1)).2.1.2.2 (Mine.cl 64900 ?ne_z1 (un26 ?R_z1)).2.2.1.1.1 (Mine.cl 64900 ?ne_z1 (un26 ?R_z1)).2.2.1.1.2 (Mine.cl 64900 ?ne_z1 (un26 ?R_z1)).2.2.1.2 (Mine.cl 64900 ?ne_z1 (un26 ?R_z1)).2.2.2.1.1 (Mine.cl 64900 ?ne_z1 (un26 ?R_z1)).2.2.2.1.2 (Mine.cl 64900 ?ne_z1 (un26 ?R_z1)).2.2.2.2)))
  (case ne_z1 => repeat (first | exact ⟨default⟩ | exact neS | exact neW | exact neA | refine ne2 ?_ ?_))
  intro w base h₀ outer L m env news dp un gd s Q E src x pos strict t0 t1 t2 b c' ob o oc
  (set_option tactic.hygienic false in intros)
  have mk9 : Clm := ⟨trivial⟩
  have htb : ∀ p ∈ [(53, o), (c', oc), (b, ob)], p ∈ news := List.forall_mem_cons.mpr ⟨hm1, List.forall_mem_cons.mpr ⟨hm2, List.forall_mem_cons.mpr ⟨hb, List.forall_mem_nil _⟩⟩⟩
  have mk9 : Clm := ⟨trivial⟩
  obtain ⟨⟨A₀, B⟩, F, X, N, ⟨p, loose, mean, mg, mb, T⟩, hf, hke⟩ := am
  have XX := Frag.In.keeps X (Fr.keep F)
  have hK : (fun (_ : OpenLaw) (_ : Params → Frag) => True) PySem.Challenge.rw_rx0047_01 Mine.hd0.heap_1 := by (k_fill; trivial)
  refine' wpAny_call (enter0 (binds := [(Str.ofString "src", .str (S src) t0), (Str.ofString "pos", .int pos t1), (Str.ofString "expect", .str (S x) t2), (Str.ofString "error_on", .ref b), (Str.ofString "error_on_eof", .bool strict)]) B F N htb (Top.nolimit T) rfl hf hke ?ho_e7 ?hd_e7 ?hcd_e7 ?hroom_e7 ?hbind_e7 ?hloc_e7 ?h_e7 ?hcell_e7 ?hco_e7 ?hgen_e7 ?hk_e7)
  (case ho_e7 => exact XX _ _ (by k_is))
  (case hd_e7 => exact rfl)
  (case hcd_e7 => exact codeRec_of XX (by k_is))
  (case hroom_e7 => exact Nat.lt_of_lt_of_le hdp (by decide))
  (case hbind_e7 => first | exact BindsTo.of_eq rfl | exact binds_K XX rfl (by k_is) rfl rfl rfl)
  (case hloc_e7 => exact locs rfl)
  (case hcell_e7 => decide)
  (case hco_e7 => exact rfl)
  (case hgen_e7 => exact rfl)
  (case hk_e7 => exact rfl)
  intro g L' h₁ tk₁ hg F' N' B' st l1
  have X' := Frag.In.keeps X st
  have T' := Top.keeps T st
  (try k_lt l1)
  (try dsimp only)
  (try k_fold)
  clear hK
  (try revert T')
  (try revert X')
  (try revert l1)
  (try revert st)
  (try revert B')
  (try revert N')
  (try revert F')
  (try revert hg)
  (try revert hK)
  (try revert XX)
  (try revert hke)
  (try revert hf)
  (try revert T)
  (try revert N)
  (try revert X)
  (try revert F)
  (try revert B)
  (repeat ((rename (_ : Prop) => z9); (fail_if_success (have : Clm := z9)); revert z9))
  revert A₀ p loose mean mg mb g L' h₁ tk₁
  (refine no_implicit_lambda% (close10 12223 ?ne_e1 (R := ?R_e1) ((?nw_e1 : ∀ A₀ p loose mean mg mb g L' h₁ tk₁, ?R_e1 A₀ p loose mean mg mb g L' h₁ tk₁) (Mine.cl 12223 ?ne_e1 (un10 ?R_e1)).1.1.1.1 (Mine.cl 12223 ?ne_e1 (un10 ?R_e1)).1.1.1.2 (Mine.cl 12223 ?ne_e1 (un10 ?R_e1)).1.1.2 (Mine.cl 12223 ?ne_e1 (un10 ?R_e1)).1.2.1 (Mine.cl 12223 ?ne_e1 (un10 ?R_e1)).1.2.2 (Mine.cl 12223 ?ne_e1 (un10 ?R_e1)).2.1.1.1 (Mine.cl 12223 ?ne_e1 (un10 ?R_e1)).2.1.1.2 (Mine.cl 12223 ?ne_e1 (un10 ?R_e1)).2.1.2 (Mine.cl 12223 ?ne_e1 (un10 ?R_e1)).2.2.1 (Mine.cl 12223 ?ne_e1 (un10 ?R_e1)).2.2.2)))
  (case ne_e1 => repeat (first | exact ⟨default⟩ | exact neS | exact neW | exact neA | refine ne2 ?_ ?_))
  intro A₀ p loose mean mg mb g L' h₁ tk₁
  (set_option tactic.hygienic false in intros)
  have mk9 : Clm := ⟨trivial⟩
  obtain ⟨pB, looseB, meanB, mgB, mbB, TB⟩ := hTB
  have hK : (fun (_ : OpenLaw) (_ : Params → Frag) => True) PySem.Challenge.rw_rx0047_01 Mine.hd0.heap_1 := by (k_fill; trivial)
  walk1
  (with_reducible refine' cut ?P ?A ?B)
  (case P => exact (fun f s₁ => Hold (f = .next ∧ Ex5 fun h' tk g' np t' => s₁ = { s with heap := h', toks := tk } ∧ KtsTurn (frs (env :: outer)) g g' ∧ Fr g' L' h' (fun y => if y = Str.ofString "new_pos" then some (.int (np : Nat) t') else List.lookup y [(Str.ofString "src", .str (S src) t0), (Str.ofString "pos", .int pos t1), (Str.ofString "expect", .str (S x) t2), (Str.ofString "error_on", .ref b), (Str.ofString "error_on_eof", .bool strict)].reverse) ∧ News g' L' h' [(53, o), (c', oc), (b, ob)] ∧ Below (ar none dp un gd env outer) base (env :: outer) g' ∧ np ≤ src.length ∧ (match fnd x (src.drop pos.toNat) with | none => strict = false ∧ np = src.length | some i => np = pos.toNat + i))))
  case A =>
    iterate 13 walk1
    case no =>
      intro hfn hh2 tk2 e ne
      have e53 : e ≠ 53 := fun q => by have z : _ = none := ne.new; rw [q, (N' (53, o) (.head _)).1] at z; cases z
      refine catchV (T' := "ValueError") B' F' N' XB TB ne (by k_is) PyProof.Rows.Boot.«ValueError» (by decide) PySem.F.isExc_ValueError PySem.F.notTuple_ValueError (by rw [isSubtype_type]; kernel_rfl) ?_
      intro h5 g5 oe vs kt F5 N5 d5 d52 K5 X5 T5
      clear F' N' B' X' T'
      cases strict
      · k_steps
        walk_at "nm"
        unfold Hold
        refine ⟨rfl, _, _, _, src.length, _, rfl, kt, F', cb_drop N' (by repeat (first | exact List.forall_mem_nil _ | refine List.forall_mem_cons.mpr ⟨by k_mem, ?_⟩)), K5, Nat.le_refl _, ?_⟩
        rw [hfn]; exact ⟨trivial, rfl⟩
      · k_steps
        unfold Hold
        with_unfolding_all refine exec_raise_noneK (w := w) (e0 := e) rfl ?_
        k_steps
        walk_at "nm"
        unfold Hold
        have hT2 : (53, tabObj #[]) ∈ ([(e, oe), (53, o), (c', oc), (b, ob)] : List (Addr × Obj)) ∨ HitIn 53 19 4 qcr [(e, oe), (53, o), (c', oc), (b, ob)] := tabs_in hT (by k_mem) (by k_mem)
        with_unfolding_all refine' C_suff (am := ?am) (hdp := ?q1) (hC := ?q3) (hm := hT2) (h0 := ?q4) (h1 := Int.le_refl _) (h2 := h2) (h3 := ?q6) (h4 := h4) (hret := ?hret)
        case am => exact ⟨⟨_, K5⟩, F', X5, N', ⟨_, _, _, _, _, T5⟩, rfl, rfl⟩
        case q1 => show dp + 1 < 500; omega
        case q3 => exact hC.keeps K5.stays
        case q4 => exact Int.natCast_nonneg _
        case q6 => (simp only [Str.length_append, lit0, lit6]); omega
        intro h7 e1 u tk7 k7 hit7 me7
        have hit7 := hit7.mono K5.stays
        have ne1 : e1 ≠ e := fun q => by have := me7.ne; rw [q, (N' _ (.head _)).1] at this; cases this
        have F7 := back53 F' N' (o := o) (by k_mem) k7
        refine ⟨e1, u, oe, vs, rfl, ne1, Frag.In.keeps X5 F7.keep, me7.ob, keep53 N' k7 (p := (e, oe)) (by k_mem) ?n53, d5, d52, fun h8 o8 e8 => ?_⟩
        case n53 => exact e53
        have F8 := Fr_keeps' F7 o8 (kts_none F'.keep me7.ne) (fun q => by obtain ⟨oL, es, ep, z, _⟩ := F'.ns; have := me7.ne; rw [← q, z] at this; cases this)
        obtain ⟨ky, hty⟩ := me7.tu
        have hu : u ≠ e1 := fun q => by rw [q, me7.ob] at hty; cases hty
        refine leaveE1 K5 F8 rfl rfl (kts_none F'.keep me7.ne) (kts_none F'.keep me7.nt) e8 rfl rfl rfl rfl ((o8 u hu).trans hty) (HitAt.but hit7 o8 me7.ob) (G := hideAll s.heap [53]) (turnedG hg (fun p hp => (N p (htb p hp)).1) (fun p hp => (N' p (.tail _ hp)).1) kt F'.keep k7 o8 me7.ne) ?ge1 ?gu1 ?gL fun h9 fl => hE e1 u _ h9 _ fl ?sk
        case sk => rw [skipV, hfn]; rfl
        case ge1 => exact noneG hg (fun p hp q => by have z := (N' p (.tail _ hp)).1; rw [q, me7.ne] at z; cases z) (turn_none kt (kts_none F'.keep me7.ne))
        case gu1 => exact noneG hg (fun p hp q => by have z := (N' p (.tail _ hp)).1; rw [q, me7.nt] at z; cases z) (turn_none kt (kts_none F'.keep me7.nt))
        case gL => exact noneG hg (fun p hp => (N' p (.tail _ hp)).2.1) (turn_none kt (kts_self F'))
    case yes =>
      intro i hi t' k
      k_steps
      walk_at "nm"
      unfold Hold
      refine ⟨rfl, _, _, _, pos.toNat + i, _, rfl, .refl, F', cb_drop N' (by repeat (first | exact List.forall_mem_nil _ | refine List.forall_mem_cons.mpr ⟨by k_mem, ?_⟩)), B', ?_, ?_⟩
      · have := fnd_lt hwne hi
        rw [List.length_drop] at this
        omega
      · rw [hi]
  case B =>
    rintro _ _ ⟨rfl, hh2, tk2, g2, np, t', rfl, kt, F2, N2, K2, hp2, hnp⟩
    dsimp only
    clear F' N' B' X' T'
    have X' := XB.keeps K2.stays
    have T' := TB.keeps K2.stays
    k_steps
    case refine'_3.refine'_3.refine'_3.refine'_3.refine_2.refine'_3 =>
      walk_at "nm"
      refine hret np _ _ _ (turnedF hg (fun p hp => (N p (htb p hp)).1) (fun p hp => (N' p hp).1) kt F'.keep) ?_
      have ht : tailV src pos.toNat np = .inr np := by
        rw [tailV, if_neg]
        rw [show ((np : Int)).toNat = np from rfl] at *
        simp_all
      rw [skipV]
      cases q : fnd x (src.drop pos.toNat) with
      | none => rw [q] at hnp; obtain ⟨rfl, rfl⟩ := hnp; exact ht
      | some i => rw [q] at hnp; obtain rfl := hnp; exact ht
    walk_at "nm"
    unfold Hold
    have hidx : ∃ j, ((src.take (np : Int).toNat).drop pos.toNat).idxOf 35 = j := ⟨_, rfl⟩
    obtain ⟨j, hj⟩ := hidx
    have hget : ∀ k : Int, pos ≤ k → k ≤ pos + j → ∃ c, src[k.toNat]? = some c ∧ (c = 35 ↔ ¬ k < pos + j) := by
      exact fun k hk1 hk2 => idx_int (by assumption) hj (by assumption) hk1 hk2
    have hjl : pos + j < src.length := by
      have := (idx_get (by assumption) hj).1
      rw [← Int.toNat_of_nonneg (show 0 ≤ pos by assumption)]
      exact Int.ofNat_lt.mpr this
    have htl : tailV src pos.toNat np = .inl (errMsg (Str.empty ++ Str.ofString "Found invalid character " ++ reprText (S [35])) src.length (pos + j)) := by
      rw [tailV, if_pos (by assumption), show ((src.take np).drop pos.toNat).idxOf 35 = j from hj]
      rw [Int.natCast_add, Int.toNat_of_nonneg (show 0 ≤ pos by assumption)]
    refine whileUp (i := Str.ofString "pos") (k₀ := pos) (K := pos + j) F' N' rfl (by omega) ?gtest ?gturn ?done
    case gtest =>
      intro k tk h₁ tk₁ hk1 hk2 F' N'
      obtain ⟨c, hc, hc2⟩ := hget k hk1 hk2
      k_steps
      · exact test35 hc2
      · exact ⟨_, _, rfl, fun _ _ e => e⟩
    case gturn =>
      intro k tk h₁ tk₁ hk1 hk2 F' N'
      k_steps
    case done =>
      intro t3 h3 tk3 F' N'
      obtain ⟨c, hc, hc2⟩ := hget (pos + j) (by omega) (Int.le_refl _)
      obtain rfl : c = 35 := hc2.mpr (Int.lt_irrefl _)
      have hrl : (reprText (S [35])).length ≤ 500 := by decide +kernel
      k_steps
      unfold Hold
      with_unfolding_all refine exec_raiseK (w := w) rfl ?_
      k_steps
      walk_at "nm"
      unfold Hold
      have hT2 : (53, tabObj #[]) ∈ ([(53, o), (c', oc), (b, ob)] : List (Addr × Obj)) ∨ HitIn 53 19 4 qcr [(53, o), (c', oc), (b, ob)] := tabs_in hT (by k_mem) (by k_mem)
      with_unfolding_all refine' C_suff (am := ?amB) (hdp := ?q1B) (hC := ?q3B) (hm := hT2) (h0 := ?q4B) (h1 := ?q5B) (h2 := h2) (h3 := ?q6B) (h4 := h4) (hret := ?hretB)
      case amB => exact ⟨⟨_, K2⟩, F', X', N', ⟨_, _, _, _, _, T'⟩, rfl, rfl⟩
      case q1B => show dp + 1 < 500; omega
      case q3B => exact hC.keeps K2.stays
      case q4B => omega
      case q5B => omega
      case q6B => (simp only [Str.length_append, lit0, lit7]); omega
      intro h7 e1 u tk7 k7 hit7 me7
      have hit7 := hit7.mono K2.stays
      have F7 := back53 F' N' (o := o) (by k_mem) k7
      obtain ⟨ky, hty⟩ := me7.tu
      refine ⟨e1, u, rfl, Frag.In.keeps X' F7.keep, me7.ob, ?_⟩
      refine leaveE1 K2 F7 rfl rfl (kts_none F'.keep me7.ne) (kts_none F'.keep me7.nt) me7.ob rfl rfl rfl rfl hty hit7 (G := hideAll s.heap [53]) (turnedG (e1 := e1) hg (fun p hp => (N p (htb p hp)).1) (fun p hp => (N' p hp).1) kt F'.keep k7 (fun _ _ => rfl) me7.ne) ?ge1B ?gu1B ?gLB fun h9 fl => hE e1 u _ h9 _ fl ?skB
      case skB =>
        rw [skipV]
        cases q : fnd x (src.drop pos.toNat) with
        | none => rw [q] at hnp; obtain ⟨rfl, rfl⟩ := hnp; exact htl
        | some i => rw [q] at hnp; obtain rfl := hnp; exact htl
      case ge1B => exact noneG hg (fun p hp q => by have z := (N' p hp).1; rw [q, me7.ne] at z; cases z) (turn_none kt (kts_none F'.keep me7.ne))
      case gu1B => exact noneG hg (fun p hp q => by have z := (N' p hp).1; rw [q, me7.nt] at z; cases z) (turn_none kt (kts_none F'.keep me7.nt))
      case gLB => exact noneG hg (fun p hp => (N' p hp).2.1) (turn_none kt (kts_self F'))
end
end Mine
end
theorem Mine.e9s3 : True := trivial
section
open PySem PySem.Spec PySem.Calls PyProof.Rows PySem.W
open PySem.Builtin PySem.Builtin.Str PySem.Builtin.BaseException PySem.Builtin.Exceptions
set_option maxHeartbeats 8000000
namespace Mine
theorem bs_kind : builtinKind "BaseException.__str__" = some .slot := by decide +kernel
theorem bs_split : splitId "BaseException.__str__" = some ("BaseException", "__str__") := by decide +kernel
theorem bs_plain : plainId "BaseException.__str__" = true := by decide +kernel
theorem bs_lookup : typeLookup (.type "ValueError") "__str__" = pure (some (.builtin "BaseException.__str__")) := by rw [typeLookup_type, builtinLookup_eq_fast]; kernel_rfl
theorem bs_bind (self : Value) : bindSpecial (.builtin "BaseException.__str__") self = pure (.builtin "BaseException.__str__", [self]) := by
  kernel_rfl
section
variable {prog : Program} {w : World} {A : Around} {E : Value → Shared → Prop} {s : Shared} {e t0 : Addr}
variable {nm q : Str} {N : Addr} {bs : List Value} {hdct : Bool} {sn : List Str} {sub : List Value} {ab : Bool} {col : Option Bool} {dd : Option Addr} {k0 k1 k2 k3 k5 : Option Value} {newId : String}
noncomputable abbrev vbm : List Value := [.type "ValueError", .type "Exception", .type "BaseException", .type "object"]
theorem bs_call {oe : Obj} {vs : Array Value} {m : Str} {tk : Tok} {Q : Value → Shared → Prop} (hC : s.heap.get? 41 = some (excClassObj nm q 41 N bs vbm hdct sn sub ab col dd k0 k1 k2 k3 k5 newId))
    (he : s.heap.get? e = some oe) (hc : oe.cls = .ref 41) (hd : oe.data = .fields vs) (h0 : vs[0]? = some (.ref t0)) (ht : s.heap.TupAt t0 [.str m tk]) (hq : Q (.str m tk) s) :
    wpAny (model prog w) A (call (.builtin "BaseException.__str__") [.ref e]) Q E s := by
  refine wpAny_call (codeAny_call_builtin bs_plain F.entry_bexc_str ?_)
  obtain ⟨hp, g, d, tk0, os⟩ := s
  have hcB : (Value.ref 41 :: vbm).contains (.type "BaseException") = true := by decide
  have hchk := F.args_bexc_str (.ref e)
  simp only [checkBuiltinCall, bs_kind, bs_split]
  unfold argsOk at hchk
  unfold isInstance
  refine wpAny_bind (wpAny_bind (wpAny_bind ?_))
  repeat (first | (with_reducible refine wpAny_loadPart_at he ?_; rw [hc]) | (with_reducible refine wpAny_isSubtype_exc hC ?_; rw [hcB]) | k_extra "wq")
  obtain ⟨ot, nt, hto, htc, htd⟩ := ht
  simp only [hd]
  refine wpAny_pure ?_
  simp only [h0]
  refine wpAny_pure (wpAny_bind (wpAny_seqItems hto htd ?_))
  refine wpAny_pure ?_
  repeat k_extra "wq"
  exact hq
theorem bs_strOf {oe : Obj} {vs : Array Value} {m : Str} {tk : Tok} {mN : Str → Option Value} {Q : Value → Shared → Prop} (hC : s.heap.get? 41 = some (excClassObj nm q 41 N bs vbm hdct sn sub ab col dd k0 k1 k2 k3 k5 newId))
    (hn : s.heap.Ns N mN) (hni : mN (Str.ofString "__str__") = none) (hu : A.units < cLine)
    (he : s.heap.get? e = some oe) (hc : oe.cls = .ref 41) (hd : oe.data = .fields vs) (h0 : vs[0]? = some (.ref t0)) (ht : s.heap.TupAt t0 [.str m tk]) (hq : Q (.str m tk) s) :
    wpAny (model prog w) A (PySem.Builtin.Str.strOf (.ref e)) Q E s := by
  have hcall : ∀ {Q : Option Value → Shared → Prop}, Q (some (.str m tk)) s → wpAny (model prog w) A (callSpecial? (.ref e) (Str.ofString "__str__")) Q E s := by
    intro Q hq
    obtain ⟨hp, g, d, tk0, os⟩ := s
    simp only [callSpecial?, specialOf, typeOf]
    refine wpAny_bind (wpAny_bind (wpAny_bind (wpAny_load he (wpAny_pure ?_))))
    rw [hc]
    refine wpAny_typeLookup_exc hC hn PySem.F.excBase_ValueError.mroIs bs_lookup ?_
    rw [hni]
    dsimp only
    refine wpAny_holding (wpAny_bind (wpAny_of_eq (bs_bind _) ?_))
    exact wpAny_bind (bs_call (s := ⟨hp, g, d, tk0, os⟩) hC he hc hd h0 ht (wpAny_pure hq))
  unfold PySem.Builtin.Str.strOf
  repeat (first | with_reducible refine wpAny_cRoomFor hu ?_ | with_reducible refine hcall ?_ | k_extra "wq")
  exact hq
end
section
variable {prog : Program} {w w' : World} {A : Around} {E : Value → Shared → Prop} {s : Shared} {e t0 : Addr}
theorem str_own {oe : Obj} {vs : Array Value} {m : Str} {tk : Tok} {Q : Value → Shared → Prop} (X : (Mine.hd0.heap_1 w.params).In s.heap) (hu : A.units + 2 < cLine)
    (he : s.heap.get? e = some oe) (hc : oe.cls = .ref 41) (hd : oe.data = .fields vs) (h0 : vs[0]? = some (.ref t0)) (ht : s.heap.TupAt t0 [.str m tk]) (hq : Q (.str m tk) s) :
    wpAny (model prog w') A (call (.type "str") [.ref e]) Q E s := by
  have hK : (fun (_ : OpenLaw) (_ : Params → Frag) => True) PySem.Challenge.rw_rx0047_01 Mine.hd0.heap_1 := by (k_fill; trivial)
  have e40 := X 40 _ (by k_is)
  have e41 := X 41 _ (by k_is)
  refine callType_new F.called_str (by decide) (F.typeCall_str_1 _) (F.newCall_str_1 _) (fun obj => F.args_object_init_2 obj _) F.entry_str_new
    (meets_str_new (S := fun A' R s' => A'.units + 1 < cLine ∧ s' = s ∧ R (.ok (.ret (.str m tk))) s')
      fun _ _ A' _ _ hq => by
        obtain ⟨h1, rfl, h2⟩ := hq
        exact bs_strOf (A := A'.in1) e41 (ns_at e40 rfl rfl) (by with_unfolding_all rfl) h1 he hc hd h0 ht h2)
    ⟨(show A.units + 1 + 1 < cLine from hu), rfl, typeIs_str _ _ _, hq⟩
end
end Mine
end
section
open PySem PySem.Spec PySem.Calls PyProof.Rows PySem.W
open PySem.Builtin PySem.Builtin.Str
set_option maxHeartbeats 4000000
namespace Mine
theorem str_plain_translate : plainId "str.translate" = true := by decide +kernel
theorem ke_lookup : isSubtype (.type "KeyError") (.type "LookupError") = pure true := by rw [isSubtype_type]; kernel_rfl
section
variable {prog : Program} {w : World} {A : Around} {E : Value → Shared → Prop} {s : Shared} {d : Addr}
theorem tl_hit {c : Nat} {x : Str} {t : Tok} {f : Int → Option Value} {Q : Mapped → Shared → Prop} (hm : s.heap.MapOf (intKind prog w) d f) (hv : f c = some (.str x t))
    (h : ∀ tk, Q (.text x) { s with toks := tk }) : wpAny (model prog w) A (tableLookup (.ref d) c) Q E s := by
  unfold tableLookup
  refine wpAny_bind (wpAny_attempt (wpAny_bind (wpAny_mkInt ?_)))
  refine wpAny_getItem_of (s := { s with toks := s.toks + 1 }) (intKind_is prog w c _) hm hv ?_
  obtain ⟨hp, g, dr, tk, os⟩ := s
  dsimp only
  repeat k_extra "wq"
  exact h _
theorem tl_miss {c : Nat} {f : Int → Option Value} {Q : Mapped → Shared → Prop} (hm : s.heap.MapOf (intKind prog w) d f) (hd : (d == sysModules) = false) (hh : A.handled = none) (hv : f c = none)
    (h : ∀ h' tk, s.heap.StaysIn h' → Q .keep { s with heap := h', toks := tk }) : wpAny (model prog w) A (tableLookup (.ref d) c) Q E s := by
  unfold tableLookup
  refine wpAny_bind (wpAny_attempt (wpAny_bind (wpAny_mkInt ?_)))
  refine wpAny_getItem_missing_of (s := { s with toks := s.toks + 1 }) (intKind_is prog w c _) hd hh hm hv fun h' e ne => ?_
  obtain ⟨hp, g, dr, tk, os⟩ := s
  dsimp only
  refine wpAny_bind (wpAny_isInstance (T := "KeyError") ?_ ke_lookup ?_)
  · obtain ⟨ob, _, h1, h2, _⟩ := ne.there; exact ⟨ob, h1, h2⟩
  rw [if_pos rfl]
  refine wpAny_bind (wpAny_rule (wpAny_pure ?_))
  exact h _ _ ne.keeps
theorem r_translate1 {c : Nat} {t : Tok} {x : Str} {t' : Tok} {f : Int → Option Value} {Q : Value → Shared → Prop} (hm : s.heap.MapOf (intKind prog w) d f) (hd : (d == sysModules) = false) (hh : A.handled = none) (hc : c < 128)
    (hv : f c = some (.str x t')) (hx : x.length = 2) (h : ∀ t h' tk, s.heap.StaysIn h' → Q (.str x t) { s with heap := h', toks := tk }) :
    wpAny (model prog w) A (call (.builtin "str.translate") [.str (S [c]) t, .ref d]) Q E s := by
  (try revert h)
  (try revert hx)
  (try revert hv)
  (try revert hc)
  (try revert hh)
  (try revert hd)
  (try revert hm)
  (repeat ((rename (_ : Prop) => z9); (fail_if_success (have : Clm := z9)); revert z9))
  revert prog w A E s d c t x t' f Q
  (refine no_implicit_lambda% (close12 64900 ?ne_z1 (R := ?R_z1) ((?nw_z1 : ∀ prog w A E s d c t x t' f Q, ?R_z1 prog w A E s d c t x t' f Q) (Mine.cl 64900 ?ne_z1 (un12 ?R_z1)).1.1.1.1 (Mine.cl 64900 ?ne_z1 (un12 ?R_z1)).1.1.1.2 (Mine.cl 64900 ?ne_z1 (un12 ?R_z1)).1.1.2 (Mine.cl 64900 ?ne_z1 (un12 ?R_z1)).1.2.1.1 (Mine.cl 64900 ?ne_z1 (un12 ?R_z1)).1.2.1.2 (Mine.cl 64900 ?ne_z1 (un12 ?R_z1)).1.2.2 (Mine.cl 64900 ?ne_z1 (un12 ?R_z1)).2.1.1.1 (Mine.cl 64900 ?ne_z1 (un12 ?R_z1)).2.1.1.2 (Mine.cl 64900 ?ne_z1 (un12 ?R_z1)).2.1.2 (Mine.cl 64900 ?ne_z1 (un12 ?R_z1)).2.2.1.1 (Mine.cl 64900 ?ne_z1 (un12 ?R_z1)).2.2.1.2 (Mine.cl 64900 ?ne_z1 (un12 ?R_z1)).2.2.2)))
  (case ne_z1 => repeat (first | exact ⟨default⟩ | exact neS | exact neW | exact neA | refine ne2 ?_ ?_))
  intro prog w A E s d c t x t' f Q
  (set_option tactic.hygienic false in intros)
  have mk9 : Clm := ⟨trivial⟩
  have hTs : s.TypeIs (.str (S [c]) t) "str" := rfl
  refine wpAny_call (codeAny_call_builtin str_plain_translate F.entry_str_translate (F.slot_str_translate.check _ _ _ _ _ _ _ _ hTs (F.args_str_translate_2 _ _) ?_))
  unfold Builtin.«str.translate»
  obtain ⟨hp, g, dr, tk, os⟩ := s
  dsimp only
  have hst : ∀ {Q' : Mapped → Shared → Prop} {E'} {A'} {tk1 os1} {n : Nat}, n = c → (∀ tk', Q' (.text x) ⟨hp, g, dr, tk', os1⟩) → wpAny (model prog w) A' (tableLookup (.ref d) n) Q' E' ⟨hp, g, dr, tk1, os1⟩ := fun e hq => by subst e; exact tl_hit (s := ⟨hp, g, dr, _, _⟩) hm hv hq
  repeat (first | ((fail_if_success (with_reducible show wpAny _ _ (tableLookup _ _) _ _ _)); k_extra "wq"))
  refine hst rfl fun tk1 => ?_
  have hx1 : (x.length == 1) = false := by rw [hx]; rfl
  dsimp only
  rw [hx1, Bool.false_and, if_neg Bool.false_ne_true]
  repeat (first | ((fail_if_success (with_reducible show wpAny _ _ (tableLookup _ _) _ _ _)); k_extra "wq"))
  refine hst rfl fun tk2 => ?_
  repeat (first | ((fail_if_success (with_reducible show wpAny _ _ (tableLookup _ _) _ _ _)); k_extra "wq"))
  have htl : tooLong (0 + x.length) = false := by rw [hx]; decide +kernel
  dsimp only
  rw [htl, if_neg Bool.false_ne_true]
  repeat (first | ((fail_if_success (with_reducible show wpAny _ _ (tableLookup _ _) _ _ _)); k_extra "wq"))
  have e : (⟨List.foldl (fun acc p => acc ++ p.cps) #[] [x].reverse⟩ : Str) = x := by
    show (⟨#[] ++ x.cps⟩ : Str) = x
    rw [Array.empty_append]
  rw [e]
  rw [if_neg (by rw [hx, sizeLine_eq]; decide)]
  repeat (first | ((fail_if_success (with_reducible show wpAny _ _ (tableLookup _ _) _ _ _)); k_extra "wq"))
  exact h _ _ _ (fun _ _ e => e)
theorem r_translate0 {c : Nat} {t : Tok} {f : Int → Option Value} {Q : Value → Shared → Prop} (hm : s.heap.MapOf (intKind prog w) d f) (hd : (d == sysModules) = false) (hh : A.handled = none) (hc : c < 128)
    (hv : f c = none) (h : ∀ t h' tk, s.heap.StaysIn h' → Q (.str (S [c]) t) { s with heap := h', toks := tk }) :
    wpAny (model prog w) A (call (.builtin "str.translate") [.str (S [c]) t, .ref d]) Q E s := by
  (try revert h)
  (try revert hv)
  (try revert hc)
  (try revert hh)
  (try revert hd)
  (try revert hm)
  (repeat ((rename (_ : Prop) => z9); (fail_if_success (have : Clm := z9)); revert z9))
  revert prog w A E s d c t f Q
  (refine no_implicit_lambda% (close10 21788 ?ne_z2 (R := ?R_z2) ((?nw_z2 : ∀ prog w A E s d c t f Q, ?R_z2 prog w A E s d c t f Q) (Mine.cl 21788 ?ne_z2 (un10 ?R_z2)).1.1.1.1 (Mine.cl 21788 ?ne_z2 (un10 ?R_z2)).1.1.1.2 (Mine.cl 21788 ?ne_z2 (un10 ?R_z2)).1.1.2 (Mine.cl 21788 ?ne_z2 (un10 ?R_z2)).1.2.1 (Mine.cl 21788 ?ne_z2 (un10 ?R_z2)).1.2.2 (Mine.cl 21788 ?ne_z2 (un10 ?R_z2)).2.1.1.1 (Mine.cl 21788 ?ne_z2 (un10 ?R_z2)).2.1.1.2 (Mine.cl 21788 ?ne_z2 (un10 ?R_z2)).2.1.2 (Mine.cl 21788 ?ne_z2 (un10 ?R_z2)).2.2.1 (Mine.cl 21788 ?ne_z2 (un10 ?R_z2)).2.2.2)))
  (case ne_z2 => repeat (first | exact ⟨default⟩ | exact neS | exact neW | exact neA | refine ne2 ?_ ?_))
  intro prog w A E s d c t f Q
  (set_option tactic.hygienic false in intros)
  have mk9 : Clm := ⟨trivial⟩
  have hTs : s.TypeIs (.str (S [c]) t) "str" := rfl
  refine wpAny_call (codeAny_call_builtin str_plain_translate F.entry_str_translate (F.slot_str_translate.check _ _ _ _ _ _ _ _ hTs (F.args_str_translate_2 _ _) ?_))
  unfold Builtin.«str.translate»
  obtain ⟨hp, g, dr, tk, os⟩ := s
  dsimp only
  have hst : ∀ {Q' : Mapped → Shared → Prop} {E'} {tk1 os1} {n : Nat}, n = c → (∀ h' tk', hp.StaysIn h' → Q' .keep ⟨h', g, dr, tk', os1⟩) → wpAny (model prog w) A.in1 (tableLookup (.ref d) n) Q' E' ⟨hp, g, dr, tk1, os1⟩ := fun e hq => by subst e; exact tl_miss (s := ⟨hp, g, dr, _, _⟩) hm hd hh hv hq
  repeat (first | ((fail_if_success (with_reducible show wpAny _ _ (tableLookup _ _) _ _ _)); k_extra "wq"))
  refine hst rfl fun h1 tk1 k1 => ?_
  dsimp only
  repeat (first | ((fail_if_success (with_reducible show wpAny _ _ (tableLookup _ _) _ _ _)); k_extra "wq"))
  exact h _ _ _ k1
end
end Mine
end
section
open PySem PySem.Spec PySem.Calls PyProof.Rows PySem.W
set_option maxHeartbeats 4000000
namespace Mine
noncomputable def escL (c : Nat) : List Nat := if c = 97 then [c] else [92, c]
noncomputable def bares : List Nat := [46, 45, 92, 93, 97]
theorem bares_ne : ∀ c ∈ bares, c ≠ 42 ∧ c ≠ 63 ∧ c ≠ 91 := by decide
theorem bares_lt : ∀ c ∈ bares, c < 128 := by decide
theorem keys_of {prog : Program} {w : World} {l : List DictEntry} (h : ∀ e ∈ l, ∃ k t, e.key = .int k t ∧ e.hash = hashInt k) : KeysOf (intKind prog w) l.toArray := fun e he => by
  obtain ⟨k, t, h1, h2⟩ := h e (by simpa using he)
  exact ⟨k, by rw [h1]; exact intKind_is prog w k t, h2⟩
noncomputable def keyRow (e : DictEntry) : Bool := match e.key with | .int k _ => e.hash == hashInt k | _ => false
theorem keyRow_ok {l : List DictEntry} (h : l.all keyRow = true) : ∀ e ∈ l, ∃ k t, e.key = .int k t ∧ e.hash = hashInt k := fun e he => by
  have := List.all_eq_true.mp h e he
  unfold keyRow at this
  split at this
  · rename_i k t q; exact ⟨k, t, q, by simpa using this⟩
  · cases this
theorem map72 {prog : Program} {w w' : World} {h : Heap} (X : (Mine.hd0.heap_1 w.params).In h) : ∃ f, h.MapOf (intKind prog w') 72 f ∧ (∀ c ∈ bares, c ≠ 97 → ∃ t, f (c : Nat) = some (.str (S [92, c]) t)) ∧ f 97 = none := by
  have hK : (fun (_ : OpenLaw) (_ : Params → Frag) => True) PySem.Challenge.rw_rx0047_01 Mine.hd0.heap_1 := by (k_fill; trivial)
  have e72 := X 72 _ (by k_is)
  refine ⟨_, ⟨_, _, _, e72, ⟨rfl, rfl, rfl⟩, rfl, keys_of (keyRow_ok (by decide +kernel)), fun _ => rfl⟩, ?_, ?_⟩
  · simp only [bares, List.forall_mem_cons, List.forall_mem_nil]
    refine ⟨fun _ => ⟨464, ?_⟩, fun _ => ⟨434, ?_⟩, fun _ => ⟨458, ?_⟩, fun _ => ⟨398, ?_⟩, fun h => absurd rfl h, fun _ h => nomatch h⟩
    all_goals kernel_rfl
  · kernel_rfl
theorem gm_translate {M : Model} {A : Around} {s : Shared} {x : Str} {t : Tok} {pl : Sem Bool} {Q : Value × List Value → Shared → Prop} {E : Value → Shared → Prop} (h : Q (.builtin "str.translate", [.str x t]) s) : wpAny M A (getMethod (.str x t) "translate" pl) Q E s :=
  by with_reducible exact GM.of (.str x t) (typeIs_str _ _ _) F.slot_str_translate F.type_str_translate GM.noRef h
theorem Hold72 {p : Prop} (h : Hold p) : p := h
section
variable {w : World} {base h₀ : Heap} {outer : List Env} {L : Addr} {m : Str → Option Value} {env : Env} {news : List (Addr × Obj)}
  {hd : Option Value} {dp un : Nat} {gd : Option (List Code)} {s : Shared} {Q E : Value → Shared → Prop}
theorem kw6 : True := by
  (k_with "9call builtin:str.translate" => ((fail_if_success first | have := @Mine.e9s4 | fail); with_unfolding_all refine Hold72 ?_))
  (k_with "9getMethod str" => ((fail_if_success first | have := @Mine.e9s4 | fail); with_reducible refine gm_translate ?_))
  trivial
theorem C_esc {c : Nat} {t0 : Tok} (am : Amb w base h₀ L m env outer news s.heap) (hdp : dp < 500) (hc : c ∈ bares)
    (hret : ∀ t h' tk, s.heap.StaysIn h' → Q (.str (S (escL c)) t) { s with heap := h', toks := tk }) :
    wpAny (MD w) (ar none dp un gd env outer) (call (.ref 82) [.str (S [c]) t0]) Q E s := by
  (try revert hret)
  (try revert hc)
  (try revert hdp)
  (try revert am)
  (repeat ((rename (_ : Prop) => z9); (fail_if_success (have : Clm := z9)); revert z9))
  revert w base h₀ outer L m env news dp un gd s Q E c t0
  (refine no_implicit_lambda% (close16 64900 ?ne_z1 (R := ?R_z1) ((?nw_z1 : ∀ w base h₀ outer L m env news dp un gd s Q E c t0, ?R_z1 w base h₀ outer L m env news dp un gd s Q E c t0) (Mine.cl 64900 ?ne_z1 (un16 ?R_z1)).1.1.1.1 (Mine.cl 64900 ?ne_z1 (un16 ?R_z1)).1.1.1.2 (Mine.cl 64900 ?ne_z1 (un16 ?R_z1)).1.1.2.1 (Mine.cl 64900 ?ne_z1 (un16 ?R_z1)).1.1.2.2 (Mine.cl 64900 ?ne_z1 (un16 ?R_z1)).1.2.1.1 (Mine.cl 64900 ?ne_z1 (un16 ?R_z1)).1.2.1.2 (Mine.cl 64900 ?ne_z1 (un16 ?R_z1)).1.2.2.1 (Mine.cl 64900 ?ne_z1 (un16 ?R_z1)).1.2.2.2 (Mine.cl 64900 ?ne_z1 (un16 ?R_z1)).2.1.1.1 (Mine.cl 64900 ?ne_z1 (un16 ?R_z1)).2.1.1.2 (Mine.cl 64900 ?ne_z1 (un16 ?R_z1)).2.1.2.1 (Mine.cl 64900 ?ne_z1 (un16 ?R_z1)).2.1.2.2 (Mine.cl 64900 ?ne_z1 (un16 ?R_z1)).2.2.1.1 (Mine.cl 64900 ?ne_z1 (un16 ?R_z1)).2.2.1.2 (Mine.cl 64900 ?ne_z1 (un16 ?R_z1)).2.2.2.1 (Mine.cl 64900 ?ne_z1 (un16 ?R_z1)).2.2.2.2)))
  (case ne_z1 => repeat (first | exact ⟨default⟩ | exact neS | exact neW | exact neA | refine ne2 ?_ ?_))
  intro w base h₀ outer L m env news dp un gd s Q E c t0
  (set_option tactic.hygienic false in intros)
  have mk9 : Clm := ⟨trivial⟩
  have htb : ∀ p ∈ ([] : List (Addr × Obj)), p ∈ news := fun p hp => nomatch hp
  have mk9 : Clm := ⟨trivial⟩
  obtain ⟨⟨A₀, B⟩, F, X, N, ⟨p, loose, mean, mg, mb, T⟩, hf, hke⟩ := am
  have XX := Frag.In.keeps X (Fr.keep F)
  have hK : (fun (_ : OpenLaw) (_ : Params → Frag) => True) PySem.Challenge.rw_rx0047_01 Mine.hd0.heap_1 := by (k_fill; trivial)
  refine' wpAny_call (enter (binds := [(Str.ofString "pattern", .str (S [c]) t0)]) B F N htb (Top.nolimit T) rfl hf hke ?ho_e8 ?hd_e8 ?hcd_e8 ?hroom_e8 ?hbind_e8 ?hloc_e8 ?h_e8 ?hcell_e8 ?hco_e8 ?hgen_e8 ?hk_e8)
  (case ho_e8 => exact XX _ _ (by k_is))
  (case hd_e8 => exact rfl)
  (case hcd_e8 => exact codeRec_of XX (by k_is))
  (case hroom_e8 => exact Nat.lt_of_lt_of_le hdp (by decide))
  (case hbind_e8 => first | exact BindsTo.of_eq rfl | exact binds_K XX rfl (by k_is) rfl rfl rfl)
  (case hloc_e8 => exact locs rfl)
  (case hcell_e8 => decide)
  (case hco_e8 => exact rfl)
  (case hgen_e8 => exact rfl)
  (case hk_e8 => exact rfl)
  intro g L' h₁ tk₁ hg F' N' B' st l1
  have X' := Frag.In.keeps X st
  have T' := Top.keeps T st
  (try k_lt l1)
  (try dsimp only)
  (try k_fold)
  clear hK
  (try revert T')
  (try revert X')
  (try revert l1)
  (try revert st)
  (try revert B')
  (try revert N')
  (try revert F')
  (try revert hg)
  (try revert hK)
  (try revert XX)
  (try revert hke)
  (try revert hf)
  (try revert T)
  (try revert N)
  (try revert X)
  (try revert F)
  (try revert B)
  (repeat ((rename (_ : Prop) => z9); (fail_if_success (have : Clm := z9)); revert z9))
  revert A₀ p loose mean mg mb g L' h₁ tk₁
  (refine no_implicit_lambda% (close10 12223 ?ne_e1 (R := ?R_e1) ((?nw_e1 : ∀ A₀ p loose mean mg mb g L' h₁ tk₁, ?R_e1 A₀ p loose mean mg mb g L' h₁ tk₁) (Mine.cl 12223 ?ne_e1 (un10 ?R_e1)).1.1.1.1 (Mine.cl 12223 ?ne_e1 (un10 ?R_e1)).1.1.1.2 (Mine.cl 12223 ?ne_e1 (un10 ?R_e1)).1.1.2 (Mine.cl 12223 ?ne_e1 (un10 ?R_e1)).1.2.1 (Mine.cl 12223 ?ne_e1 (un10 ?R_e1)).1.2.2 (Mine.cl 12223 ?ne_e1 (un10 ?R_e1)).2.1.1.1 (Mine.cl 12223 ?ne_e1 (un10 ?R_e1)).2.1.1.2 (Mine.cl 12223 ?ne_e1 (un10 ?R_e1)).2.1.2 (Mine.cl 12223 ?ne_e1 (un10 ?R_e1)).2.2.1 (Mine.cl 12223 ?ne_e1 (un10 ?R_e1)).2.2.2)))
  (case ne_e1 => repeat (first | exact ⟨default⟩ | exact neS | exact neW | exact neA | refine ne2 ?_ ?_))
  intro A₀ p loose mean mg mb g L' h₁ tk₁
  (set_option tactic.hygienic false in intros)
  have mk9 : Clm := ⟨trivial⟩
  have fo9 : FoldOn := ⟨trivial⟩
  obtain ⟨f, hm, hf, hf0⟩ := map72 (w' := w) (X'.keeps F'.keep)
  k_steps
  unfold Hold
  by_cases h97 : c = 97
  · subst h97
    refine r_translate0 hm (by decide) rfl (by decide) hf0 fun t h' tk k => ?_
    walk_at "nm"
    have hs := stays hg N htb F' N' (by repeat (first | exact List.forall_mem_nil _ | refine List.forall_mem_cons.mpr ⟨by k_mem, ?_⟩))
    exact hret _ _ _ fun b o e => k _ _ (hs _ _ e)
  · obtain ⟨t, ht⟩ := hf c hc h97
    refine r_translate1 hm (by decide) rfl (bares_lt c hc) ht (S_len _) fun t h' tk k => ?_
    walk_at "nm"
    have hs := stays hg N htb F' N' (by repeat (first | exact List.forall_mem_nil _ | refine List.forall_mem_cons.mpr ⟨by k_mem, ?_⟩))
    have := hret t h' tk fun b o e => k _ _ (hs _ _ e)
    rw [escL, if_neg h97] at this
    exact this
end
end Mine
end
theorem Mine.e9s4 : True := trivial
section
open PySem PySem.Spec PySem.Calls PyProof.Rows PySem.W
set_option maxHeartbeats 4000000
namespace Mine
noncomputable abbrev apo (l : Addr) : Obj := { cls := .type "builtin_function_or_method", data := .fields #[.builtin "list.append", .ref l] }
theorem md_slot : Slot "method_descriptor" "__get__" "method_descriptor.__get__" :=
  .of (owner := "method_descriptor") (n := "__get__") (by rw [typeLookup_type, builtinLookup_eq_fast]; kernel_rfl) (by decide +kernel) (by decide +kernel) (by decide +kernel)
    (by first | exact .inl (by decide +kernel) | exact .inr (by decide +kernel)) (by rw [isSubtype_type]; kernel_rfl)
theorem md_noset : typeLookup (.type "method_descriptor") "__set__" = pure none := by rw [typeLookup_type, builtinLookup_eq_fast]; kernel_rfl
theorem md_nodel : typeLookup (.type "method_descriptor") "__delete__" = pure none := by rw [typeLookup_type, builtinLookup_eq_fast]; kernel_rfl
theorem md_entry : entryFor table "method_descriptor.__get__" = some Builtin.«method_descriptor.__get__» := entryFor_of_tree (by kernel_rfl)
theorem md_args (a b c : Value) : argsOk "method_descriptor.__get__" ⟨[a, b, c], []⟩ := by unfold argsOk; kernel_rfl
theorem ap_told : Manifest.toldItsClass.contains "list.append" = false := by decide +kernel
theorem ap_owner : (kfb_private% "ownerAndName") "list.append" = ("list", "append") := by first | decide +kernel | kernel_rfl
theorem ap_sub : isSubtype (.type "list") (.type "list") = pure true := by rw [isSubtype_type]; kernel_rfl
theorem ap_bound (l : Addr) (v : Value) : checkBoundCall "list.append" ⟨[.ref l, v], []⟩ = checkBoundCall "list.append" ⟨[.ref l, v], []⟩ := rfl
section
variable {prog : Program} {w : World} {M : Model} {A : Around} {E : Value → Shared → Prop} {s : Shared} {h₀ : Heap} {L : Addr} {m : PySem.Str → Option Value} {news : List (Addr × Obj)} {l : Addr} {ol : Obj}
theorem bm_run {P : Fin → Shared → Prop} (hl : s.heap.get? l = some ol) (hc : ol.cls = .type "list") (h : P (.done (.ret (.ref s.heap.objs.size))) { s with heap := s.heap.push (apo l) }) :
    wpAny M A (Builtin.«method_descriptor.__get__» ⟨[.builtin "list.append", .ref l, .type "list"], []⟩) P E s := by
  unfold Builtin.«method_descriptor.__get__»
  refine wpAny_bind (wpAny_of_eq (a := (.builtin "list.append", some (.ref l), some (.type "list"))) (by first | rfl | kernel_rfl) ?_)
  dsimp only
  rw [ap_told]
  refine KFB.if_not rfl ?_
  show wpAny _ _ (((kfb_private% "checkInstance") (.builtin "list.append") (.ref l) >>= fun _ => _)) _ _ _
  refine wpAny_bind ?_
  show wpAny _ _ (((kfb_private% "nameAndClass") (.builtin "list.append") >>= fun _ => _)) _ _ _
  refine wpAny_bind (wpAny_of_eq (a := (PySem.Str.ofString "append", Value.type "list")) (by first | rfl | kernel_rfl) ?_)
  refine wpAny_bind (wpAny_isInstance (T := "list") ⟨ol, hl, hc⟩ ap_sub ?_)
  refine KFB.if_not rfl ?_
  refine wpAny_pure ?_
  exact wpAny_bind (wpAny_newObj_type (wpAny_pure h))
theorem bm_entry {tk : Tok} {its : Array Value} {n : Nat} {Q : Fin → Shared → Prop} (hl : s.heap.get? l = some (W.listOf its n)) (h : Q (.done (.ret (.ref s.heap.objs.size))) { s with heap := s.heap.push (apo l) }) :
    wpAny (model prog w) A (Builtin.«object.__getattribute__» ⟨[.ref l, .str "append" tk], []⟩) Q E s := by
  obtain ⟨hp, g, d, t, os⟩ := s
  have hT : (⟨hp, g, d, t, os⟩ : Shared).TypeIs (.ref l) "list" := ⟨_, hl, rfl⟩
  have hT5 : (⟨hp, g, d, t, os⟩ : Shared).TypeIs (.builtin "list.append") "method_descriptor" := F.type_list_append
  have f4 := F.slot_list_append.lookup
  have f5 := F.type_list_append
  have f6 := md_slot.lookup
  have f7 := md_noset
  have f8 := md_nodel
  repeat (any_goals (first | assumption | k_extra "wq"))
  refine codeAny_call_builtin md_slot.plain md_entry (md_slot.check _ _ _ _ _ _ _ _ hT5 (md_args _ _ _) (bm_run hl rfl ?_))
  exact wpAny_pure h
end
end Mine
end
section
open PySem PySem.Spec PySem.Calls PyProof.Rows PySem.W
set_option maxHeartbeats 400000
namespace Mine
section
variable {prog : Program} {w : World} {M : Model} {A : Around} {E : Value → Shared → Prop} {s : Shared} {h₀ : Heap} {L : Addr} {m : PySem.Str → Option Value} {news : List (Addr × Obj)} {l : Addr} {ol : Obj}
theorem bm_getAttr {its : Array Value} {n : Nat} {Q : Value → Shared → Prop} (hl : s.heap.get? l = some (W.listOf its n)) (h : Q (.ref s.heap.objs.size) { s with heap := s.heap.push (apo l), toks := s.toks + 1 }) :
    wpAny (model prog w) A (getAttr (.ref l) (PySem.Str.ofString "append") true) Q E s := by
  obtain ⟨hp, g, d, t, os⟩ := s
  have hT : ∀ tk', (⟨hp, g, d, tk', os⟩ : Shared).TypeIs (.ref l) "list" := fun _ => ⟨_, hl, rfl⟩
  have f3 := F.slot_list_getattribute.lookup
  have f4 := F.slot_list_getattribute.bind (.ref l)
  unfold getAttr
  refine wpAny_bind (wpAny_mkText ?_)
  unfold getAttrBy
  refine wpAny_holding (wpAny_bind (wpAny_typeOf (hT _) (wpAny_bind (wpAny_of_eq f3 ?_))))
  dsimp only
  refine KFB.if_not (by decide) ?_
  unfold getAttrByItsOwn
  refine wpAny_bind (wpAny_of_eq (a := none) (by rfl) ?_)
  refine wpAny_bind (wpAny_attempt (wpAny_holding ?_))
  unfold callGetattribute
  refine KFB.if_not (by decide) ?_
  unfold boundAndCalled
  refine wpAny_bind (wpAny_of_eq f4 ?_)
  refine wpAny_call_entry F.slot_list_getattribute (hT _) F.entry_list_ga (bm_entry hl ⟨_, rfl, ?_⟩) (F.args_list_getattribute_2 _ _)
  exact wpAny_pure h
end
end Mine
end
section
open PySem PySem.Spec PySem.Calls PyProof.Rows PySem.W
set_option maxHeartbeats 400000
namespace Mine
theorem ap_type : isSubtype (.type "list") (.type "type") = pure false := by rw [isSubtype_type]; kernel_rfl
theorem ap_plain : plainId "list.append" = true := by decide +kernel
theorem ap_kind : builtinKind "list.append" = some .method := by decide +kernel
theorem ap_mod : isSubtype (.type "list") (.type "module") = pure false := by rw [isSubtype_type]; kernel_rfl
theorem ap_sig : ∃ sg, Manifest.signature? "list.append" = some sg ∧ ∀ (a b : Value), Bind.checkArgs "list.append" { sg with full := s!"{Bind.lastOf "list"}.{Bind.lastOf "list.append"}" } ⟨[a, b], []⟩ = pure () := by
  refine ⟨_, signature?_of (id := "list.append") (n := ['d', 'n', 'e', 'p', 'p', 'a']) (o := ['t', 's', 'i', 'l']) (by kernel_rfl) F.owner_list, fun a b => ?_⟩
  kernel_rfl
section
variable {prog : Program} {w : World} {M : Model} {A : Around} {E : Value → Shared → Prop} {s : Shared} {h₀ : Heap} {L : Addr} {m : PySem.Str → Option Value} {news : List (Addr × Obj)} {l : Addr} {ol : Obj}
theorem bm_call {x : Addr} {v : Value} {its : Array Value} {n : Nat} {news' : List (Addr × Obj)} {Q : Value → Shared → Prop} (F : Fr h₀ L s.heap m) (N : News h₀ L s.heap news) (hx : s.heap.get? x = some (apo l))
    (U : Upd l (listOf its n) (listOf (its.push v) (n + 1)) news news')
    (h : ∀ h', Fr h₀ L h' m → News h₀ L h' news' → Q .none { s with heap := h' }) (hsz : its.size ≤ sizeLine := by size_fits) : wpAny (model prog w) A (call (.ref x) [v]) Q E s := by
  (try revert hsz)
  (try revert h)
  (try revert U)
  (try revert hx)
  (try revert N)
  (try revert F)
  (repeat ((rename (_ : Prop) => z9); (fail_if_success (have : Clm := z9)); revert z9))
  revert prog w A E s h₀ L m news l x v its n news' Q
  (refine no_implicit_lambda% (close16 64900 ?ne_z1 (R := ?R_z1) ((?nw_z1 : ∀ prog w A E s h₀ L m news l x v its n news' Q, ?R_z1 prog w A E s h₀ L m news l x v its n news' Q) (Mine.cl 64900 ?ne_z1 (un16 ?R_z1)).1.1.1.1 (Mine.cl 64900 ?ne_z1 (un16 ?R_z1)).1.1.1.2 (Mine.cl 64900 ?ne_z1 (un16 ?R_z1)).1.1.2.1 (Mine.cl 64900 ?ne_z1 (un16 ?R_z1)).1.1.2.2 (Mine.cl 64900 ?ne_z1 (un16 ?R_z1)).1.2.1.1 (Mine.cl 64900 ?ne_z1 (un16 ?R_z1)).1.2.1.2 (Mine.cl 64900 ?ne_z1 (un16 ?R_z1)).1.2.2.1 (Mine.cl 64900 ?ne_z1 (un16 ?R_z1)).1.2.2.2 (Mine.cl 64900 ?ne_z1 (un16 ?R_z1)).2.1.1.1 (Mine.cl 64900 ?ne_z1 (un16 ?R_z1)).2.1.1.2 (Mine.cl 64900 ?ne_z1 (un16 ?R_z1)).2.1.2.1 (Mine.cl 64900 ?ne_z1 (un16 ?R_z1)).2.1.2.2 (Mine.cl 64900 ?ne_z1 (un16 ?R_z1)).2.2.1.1 (Mine.cl 64900 ?ne_z1 (un16 ?R_z1)).2.2.1.2 (Mine.cl 64900 ?ne_z1 (un16 ?R_z1)).2.2.2.1 (Mine.cl 64900 ?ne_z1 (un16 ?R_z1)).2.2.2.2)))
  (case ne_z1 => repeat (first | exact ⟨default⟩ | exact neS | exact neW | exact neA | refine ne2 ?_ ?_))
  intro prog w A E s h₀ L m news l x v its n news' Q
  (set_option tactic.hygienic false in intros)
  have mk9 : Clm := ⟨trivial⟩
  obtain ⟨pre, post, e1, e2, a, b⟩ := U.split
  have hl := (N (l, listOf its n) (by rw [e1]; exact List.mem_append.mpr (.inr (.head _)))).1
  refine wpAny_call (codeAny_of_tree ?_)
  show wpAny _ A.in1 (callAny (.ref x) ⟨[v], []⟩) _ _ s
  simp only [callAny]
  refine wpAny_bind (wpAny_load hx ?_)
  simp only [show (Value.type "builtin_function_or_method" == Value.type "method" || Value.type "builtin_function_or_method" == Value.type "builtin_function_or_method" || Value.type "builtin_function_or_method" == Value.type "method-wrapper") = true by decide, if_true]
  refine KFB.if_so (by decide) ?_
  refine wpAny_bind ?_
  unfold checkBoundCall
  have hsg := ap_sig
  obtain ⟨sg, hsg, hck⟩ := ap_sig
  simp only [hsg, ap_kind]
  obtain ⟨hp, g, d, t, os⟩ := s
  have hT : (⟨hp, g, d, t, os⟩ : Shared).TypeIs (.ref l) "list" := ⟨_, hl, rfl⟩
  refine KFB.if_not (by decide) ?_
  refine wpAny_bind (wpAny_isInstance hT ap_mod ?_)
  refine KFB.if_not (by decide +kernel) ?_
  refine wpAny_bind ?_
  show wpAny _ _ (isType (.ref l)) _ _ _
  unfold isType
  refine wpAny_bind (wpAny_loadPart_at hl (wpAny_pure ?_))
  refine KFB.if_not rfl ?_
  refine wpAny_bind (wpAny_typeOf hT ?_)
  refine wpAny_of_eq (hck _ _) ?_
  refine wpAny_pure ⟨Code.quiet_builtin _ (by decide +kernel), codeAny_builtin PySem.F.entry_list_append ?_⟩
  rw [Around.under_plainId ap_plain _]
  have hz' : (its.push v).size ≤ sizeLine + 1 := by rw [Array.size_push]; omega
  show wpAny _ _ (Builtin.«list.append» ⟨[.ref l, v], []⟩) _ _ _
  wp_walk using (wpAny_updateSeq hl rfl (hz := hsz) (_hz' := hz'))
  have ho' : (hp.update l (Obj.mapSeq fun x => x.push v)).get? l = some (listOf (its.push v) (n + 1)) := by
    rw [Heap.get?_update_self _ hl (by rw [mapSeq_push]; rfl), mapSeq_push]
  have z := N (l, listOf its n) (by rw [e1]; exact List.mem_append.mpr (.inr (.head _)))
  subst e1 e2
  exact h _ (F.change (Heap.SameBut.update ..) z.2.1 z.2.2) (news_set N a b (Heap.SameBut.update ..) ho')
noncomputable def BoundAt (x l : Addr) (h : Heap) : Prop := h.get? x = some (apo l)
theorem bm_fields {pos : Pos} {u l : Addr} {first : List Value} {args : List (Bool × Sem Value)} {Q : Value → Shared → Prop} (hplain : args.any (·.1) = false)
    (h : wpAny M A (evalArgs (.ref u) true args []) (fun x s₁ => BoundAt u l s₁.heap ∧ wpAny M A (call (.ref u) (first ++ x.pos) x.kw) Q E s₁) E s) : wpAny M A (callWith pos (.ref u) first args []) Q E s := by
  unfold callWith
  refine wpAny_bind (wpAny_holding (wpAny_mono h (fun x s₁ h₁ => wpAny_bind (wpAny_standAt ?_)) fun _ _ x => x))
  obtain ⟨ho, hcall⟩ := h₁
  simp only [hplain, List.any_nil, Bool.or_false]
  refine wpAny_bind (m := keeperOf (.ref u)) ?_
  unfold keeperOf
  refine wpAny_bind (wpAny_load ho ?_)
  simp only [show (Value.type "builtin_function_or_method" != Value.type "method") = true by decide, show (Value.type "builtin_function_or_method" == Value.type "builtin_function_or_method" || Value.type "builtin_function_or_method" == Value.type "method-wrapper") = true by decide, if_true]
  refine wpAny_pure ?_
  exact wpAny_bind (wpAny_mono hcall (fun r s₂ hr => wpAny_bind (wpAny_holding (wpAny_point (wpAny_pure hr)))) fun _ _ x => x)
theorem bm_with {pos : Pos} {u l : Addr} {first : List Value} {env : Env} {e : Expr} {rest : List Expr} {Q : Value → Shared → Prop}
    (h : wpAny M A (spliced (backTo pos (starEach (e :: rest) env))) (fun vs s₁ => BoundAt u l s₁.heap ∧ wpAny M A (call (.ref u) (first ++ vs)) Q E s₁) E s)
    (he : starEach (e :: rest) env = (false, eval e env) :: starEach rest env := by rfl) (hplain : (backTo pos (starEach rest env)).any (·.1) = false := by rfl) :
    wpAny M A (callWith pos (.ref u) first (backTo pos (starEach (e :: rest) env)) []) Q E s := by
  rw [he] at h ⊢
  refine bm_fields (l := l) (by show (false || (backTo pos (starEach rest env)).any (·.1)) = false; rw [hplain]; rfl) ?_
  exact evalArgs_plain h
theorem bm_get {its : Array Value} {n : Nat} {Q : Value → Shared → Prop} (F : Fr h₀ L s.heap m) (N : News h₀ L s.heap news) (hm : (l, listOf its n) ∈ news)
    (h : ∀ x h', Fr h₀ L h' m → News h₀ L h' ((x, apo l) :: news) → (∀ p ∈ news, p.1 < x) → Q (.ref x) { s with heap := h', toks := s.toks + 1 }) :
    wpAny (model prog w) A (getAttr (.ref l) (PySem.Str.ofString "append") true) Q E s :=
  bm_getAttr (N _ hm).1 (h _ _ (F.push _) (News.push F N _) fun p hp => Heap.lt_size (N p hp).1)
theorem bm_truth {vs : List Value} {v : Value} {n : Nat} {Q : Bool → Shared → Prop} (N : News h₀ L s.heap news) (hm : (l, listOf (List.toArray (vs ++ [v])) n) ∈ news) (hv : vs.length ≤ 100) (h : ∀ tk, Q true { s with toks := tk }) : wpAny (model prog w) A (truthy (.ref l)) Q E s := by
  refine wpAny_truthy_list (N.isList hm) ?_ ?_
  · simp; omega
  · have : (!(List.toArray (vs ++ [v])).isEmpty) = true := by simp
    first | (rw [this]; exact h _) | (simp; exact h _)
theorem bm_last {value slice : PySem.Expr} {vs : List Value} {v : Value} {n : Nat} {u : Tok} {Q : Value → Shared → Prop} (N : News h₀ L s.heap news) (hm : (l, listOf (List.toArray (vs ++ [v])) n) ∈ news) (h : Q v s)
    (hs : subscripted slice false (.ref l) (.int (-1) u) = operate [.ref l, .int (-1) u] (getItem (.ref l) (.int (-1) u)) := by with_unfolding_all rfl) (hg : ∀ r, letTemporaryGo value (.ref l) r = pure () := by intro _; with_unfolding_all rfl) :
    wpAny (model prog w) A (subscriptTail value slice (.ref l) (.int (-1) u)) Q E s := item_last (N.isList hm) h hs hg
theorem bm_at {x : Addr} {h : Heap} (N : News h₀ L h news) (hm : (x, apo l) ∈ news) : BoundAt x l h := (N _ hm).1
end
end Mine
end
section
open PySem PySem.Spec PySem.Calls PyProof.Rows PySem.W
set_option maxHeartbeats 4000000
namespace Mine
inductive PV where
  | val (v : Value)
  | int (i : Int)
  | str (s : Str)
  | bool (b : Bool)
noncomputable def PV.all : PV → (Value → Prop) → Prop
  | .val v, P => P v
  | .int i, P => ∀ t, P (.int i t)
  | .str s, P => ∀ t, P (.str s t)
  | .bool b, P => P (.bool b)
inductive PW where
  | name (x : Str) | con (c : Const) | bin (l : Expr) (op : Operator) (r : Expr) | cmp (l : Expr) (ops : List CmpOp) (cs : List Expr) | call (f : Expr) (as : List Expr) (ks : List Keyword) | other
noncomputable def vw (e : Expr) : PW := match e with
  | .Name x _ => .name x
  | .Constant c _ _ => .con c
  | .BinOp l op r _ => .bin l op r
  | .Compare l ops cs _ => .cmp l ops cs
  | .Call f as ks _ => .call f as ks
  | _ => .other
inductive VW : Expr → PW → Prop
  | name (x ps) : VW (.Name x ps) (.name x)
  | con (c k ps) : VW (.Constant c k ps) (.con c)
  | bin (l op r ps) : VW (.BinOp l op r ps) (.bin l op r)
  | cmp (l ops cs ps) : VW (.Compare l ops cs ps) (.cmp l ops cs)
  | call (f as ks ps) : VW (.Call f as ks ps) (.call f as ks)
  | other (e) : VW e .other
theorem vw_spec (e : Expr) : VW e (vw e) := by
  cases e <;> first | exact .other _ | exact .name _ _ | exact .con _ _ _ | exact .bin _ _ _ _ | exact .cmp _ _ _ _ | exact .call _ _ _ _
noncomputable def numV (v : Value) : Option Int := match v with
  | .int i _ => some i
  | _ => none
theorem numV_some {v : Value} {i : Int} (h : numV v = some i) : ∃ t, v = .int i t := by
  cases v <;> first | cases h; exact ⟨_, rfl⟩ | exact nomatch h
noncomputable def PV.num : PV → Option Int
  | .val v => numV v
  | .int i => some i
  | .str _ => none
  | .bool _ => none
noncomputable def pop (o : Operator) (a b : Int) : Option PV := match o with
  | .Add => some (.int (a + b))
  | .Sub => some (.int (a - b))
  | _ => none
noncomputable def pcmp (o : CmpOp) (a b : Int) : Option PV := match o with
  | .Lt => some (.bool (decide (a < b)))
  | .LtE => some (.bool (decide (a ≤ b)))
  | .Gt => some (.bool (decide (b < a)))
  | .GtE => some (.bool (decide (b ≤ a)))
  | .Eq => some (.bool (a == b))
  | .NotEq => some (.bool (a != b))
  | _ => none
noncomputable def isLoc (o : Option NameKind) : Bool := match o with
  | some k => (match k with | .local => true | _ => false)
  | none => false
theorem isLoc_true {o : Option NameKind} (h : isLoc o = true) : o = some .local := by
  cases o with
  | none => cases h
  | some k => cases k <;> first | rfl | cases h
noncomputable def pnm (m : Str → Option Value) (ns : List (Str × NameKind)) (x : Str) : Option (PV × Nat) :=
  bif isLoc (ns.lookup x) then (m x).map (fun v => (.val v, 0)) else none
noncomputable def pcs (c : Const) : Option (PV × Nat) := match c with
  | .int i => some (.int i, 0)
  | .str s => some (.str s, 0)
  | _ => none
noncomputable def pb4 (f : Int → Int → Option PV) (jk : Nat) : Option Int → Option Int → Option (PV × Nat)
  | none, _ => none
  | some _, none => none
  | some a, some b => (f a b).map (fun c => (c, jk))
noncomputable def pbin (f : Int → Int → Option PV) : Option (PV × Nat) → Option (PV × Nat) → Option (PV × Nat)
  | none, _ => none
  | some _, none => none
  | some a, some b => pb4 f (a.2 + b.2) a.1.num b.1.num
inductive PBn (f : Int → Int → Option PV) : Option (PV × Nat) → Option (PV × Nat) → PV → Nat → Prop
  | mk {a b j k p q c} : a.num = some p → b.num = some q → f p q = some c → PBn f (some (a, j)) (some (b, k)) c (j + k)
noncomputable def pcmps (l : Option (PV × Nat)) (pr : Expr → Option (PV × Nat)) : List CmpOp → List Expr → Option (PV × Nat)
  | [], _ => none
  | _ :: _ :: _, _ => none
  | [_], [] => none
  | [_], _ :: _ :: _ => none
  | [op], [r] => bif behindInMarks op r then none else pbin (pcmp op) l (pr r)
noncomputable def lenV (v : Value) : Option Nat := match v with
  | .str x _ => some x.cps.toList.length
  | _ => none
theorem lenV_some {v : Value} {n : Nat} (h : lenV v = some n) : ∃ l t, v = .str ⟨⟨l⟩⟩ t ∧ n = l.length := by
  cases v with
  | str x t => obtain ⟨⟨l⟩⟩ := x; cases h; exact ⟨l, t, rfl, rfl⟩
  | _ => cases h
noncomputable def plen (m : Str → Option Value) (x : Str) : Option (PV × Nat) := ((m x).bind lenV).map fun n : Nat => (PV.int (n : Int), n)
noncomputable def pcall (m : Str → Option Value) (ns : List (Str × NameKind)) (f : PW) (as : List Expr) (ks : List Keyword) : Option (PV × Nat) := match f, as, ks with
  | .name f, [a], [] => (match vw a with
    | .name x => if (decide (ns.lookup f = some .globalImplicit) && (decide (f = Str.ofString "len") && isLoc (ns.lookup x))) = true then plen m x else none
    | _ => none)
  | _, _, _ => none
noncomputable def pe1 (m : Str → Option Value) (ns : List (Str × NameKind)) (pr : Expr → Option (PV × Nat)) : PW → Option (PV × Nat)
  | .name x => pnm m ns x
  | .con c => pcs c
  | .bin l op r => pbin (pop op) (pr l) (pr r)
  | .cmp l ops cs => pcmps (pr l) pr ops cs
  | .call f as ks => pcall m ns (vw f) as ks
  | .other => none
noncomputable def pe (m : Str → Option Value) (ns : List (Str × NameKind)) : Nat → Expr → Option (PV × Nat)
  | 0 => fun _ => none
  | n + 1 => fun e => pe1 m ns (pe m ns n) (vw e)
inductive PE (m : Str → Option Value) (ns : List (Str × NameKind)) : Expr → PV → Nat → Prop
  | name {x ps v} : ns.lookup x = some .local → m x = some v → PE m ns (.Name x ps) (.val v) 0
  | int {i k ps} : PE m ns (.Constant (.int i) k ps) (.int i) 0
  | str {x k ps} : PE m ns (.Constant (.str x) k ps) (.str x) 0
  | bin {l op r ps a b j k p q c} : PE m ns l a j → PE m ns r b k → a.num = some p → b.num = some q → pop op p q = some c → PE m ns (.BinOp l op r ps) c (j + k)
  | cmp {l op r ps a b j k p q c} : PE m ns l a j → PE m ns r b k → behindInMarks op r = false → a.num = some p → b.num = some q → pcmp op p q = some c → PE m ns (.Compare l [op] [r] ps) c (j + k)
  | len {p1 y p2 p3 l t} : ns.lookup (Str.ofString "len") = some .globalImplicit → ns.lookup y = some .local → m y = some (.str ⟨⟨l⟩⟩ t) → PE m ns (.Call (.Name (Str.ofString "len") p1) [.Name y p2] [] p3) (.int l.length) l.length
theorem pbin_some {f : Int → Int → Option PV} {x y : Option (PV × Nat)} {z : PV × Nat} (h : pbin f x y = some z) : PBn f x y z.1 z.2 := by
  cases x with
  | none => exact nomatch h
  | some x =>
    cases y with
    | none => exact nomatch h
    | some y =>
      have h : pb4 f (x.2 + y.2) x.1.num y.1.num = some z := h
      cases qa : x.1.num with
      | none => rw [qa] at h; exact nomatch h
      | some p =>
        cases qb : y.1.num with
        | none => rw [qa, qb] at h; exact nomatch h
        | some q =>
          rw [qa, qb] at h
          have h : (f p q).map (fun c => (c, x.2 + y.2)) = some z := h
          cases qf : f p q with
          | none => rw [qf] at h; exact nomatch h
          | some c => rw [qf] at h; cases h; exact .mk (a := x.1) (b := y.1) qa qb qf
theorem pe_name {m : Str → Option Value} {ns : List (Str × NameKind)} {x : Str} {ps : Pos} {z : PV × Nat} (h : pnm m ns x = some z) : PE m ns (.Name x ps) z.1 z.2 := by
  unfold pnm at h
  cases q : isLoc (ns.lookup x) with
  | false => rw [q] at h; exact nomatch h
  | true =>
    rw [q] at h
    cases r : m x with
    | none => rw [r] at h; exact nomatch h
    | some v => rw [r] at h; cases h; exact .name (isLoc_true q) r
theorem pe_con {m : Str → Option Value} {ns : List (Str × NameKind)} {c : Const} {k} {ps : Pos} {z : PV × Nat} (h : pcs c = some z) : PE m ns (.Constant c k ps) z.1 z.2 := by
  cases c <;> first | (cases h; exact .int) | (cases h; exact .str) | exact nomatch h
theorem pe_len {m : Str → Option Value} {ns : List (Str × NameKind)} {f x : Str} {p1 p2 p3 : Pos} {z : PV × Nat} (h : (if (decide (ns.lookup f = some .globalImplicit) && (decide (f = Str.ofString "len") && isLoc (ns.lookup x))) = true then plen m x else none) = some z) :
    PE m ns (.Call (.Name f p1) [.Name x p2] [] p3) z.1 z.2 := by
  by_cases hb : (decide (ns.lookup f = some .globalImplicit) && (decide (f = Str.ofString "len") && isLoc (ns.lookup x))) = true
  · rw [if_pos hb] at h
    obtain ⟨hg, hb⟩ := (Bool.and_eq_true_iff.mp hb : _ ∧ _)
    obtain ⟨hf, hx⟩ := (Bool.and_eq_true_iff.mp hb : _ ∧ _)
    have hg := of_decide_eq_true hg
    have hf := of_decide_eq_true hf
    subst hf
    have h : ((m x).bind lenV).map (fun n : Nat => (PV.int (n : Int), n)) = some z := h
    cases q : m x with
    | none => rw [q] at h; exact nomatch h
    | some v =>
      rw [q] at h
      have h : (lenV v).map (fun n : Nat => (PV.int (n : Int), n)) = some z := h
      cases r : lenV v with
      | none => rw [r] at h; exact nomatch h
      | some n =>
        rw [r] at h
        obtain ⟨l, t, rfl, rfl⟩ := lenV_some r
        cases h
        exact .len hg (isLoc_true hx) q
  · rw [if_neg hb] at h; exact nomatch h
theorem pe_call {m : Str → Option Value} {ns : List (Str × NameKind)} {f : Expr} {as : List Expr} {ks : List Keyword} {ps : Pos} {z : PV × Nat} (h : pcall m ns (vw f) as ks = some z) : PE m ns (.Call f as ks ps) z.1 z.2 := by
  have hf := vw_spec f
  generalize vw f = u at h hf
  cases hf with
  | name f p1 =>
    cases as with
    | nil => exact nomatch h
    | cons e1 as =>
      cases as with
      | cons _ _ => exact nomatch h
      | nil =>
        cases ks with
        | cons _ _ => exact nomatch h
        | nil =>
          have he := vw_spec e1
          have h : (match vw e1 with
            | .name x => if (decide (ns.lookup f = some .globalImplicit) && (decide (f = Str.ofString "len") && isLoc (ns.lookup x))) = true then plen m x else none
            | _ => none) = some z := h
          generalize vw e1 = u at h he
          cases he <;> first | exact pe_len h | exact nomatch h
  | _ => exact nomatch h
theorem pe_PE {m : Str → Option Value} {ns : List (Str × NameKind)} : ∀ (n : Nat) (e : Expr) (z : PV × Nat), pe m ns n e = some z → PE m ns e z.1 z.2 := by
  intro n
  induction n with
  | zero => intro e z h; exact nomatch h
  | succ n ih =>
    intro e z h
    have h : pe1 m ns (pe m ns n) (vw e) = some z := h
    have hv := vw_spec e
    generalize vw e = u at h hv
    cases hv with
    | name x ps => exact pe_name h
    | con c q ps => exact pe_con h
    | bin l op r ps =>
      have h : pbin (pop op) (pe m ns n l) (pe m ns n r) = some z := h
      have hb := pbin_some h
      generalize h1 : pe m ns n l = a1 at hb
      generalize h2 : pe m ns n r = a2 at hb
      generalize z.1 = z1 at hb ⊢
      generalize z.2 = z2 at hb ⊢
      cases hb with
      | mk hx hy hc => exact .bin (ih _ _ h1) (ih _ _ h2) hx hy hc
    | cmp l ops es ps =>
      have h : pcmps (pe m ns n l) (pe m ns n) ops es = some z := h
      cases ops with
      | nil => exact nomatch h
      | cons op ops =>
        cases ops with
        | cons _ _ => exact nomatch h
        | nil =>
          cases es with
          | nil => exact nomatch h
          | cons r es =>
            cases es with
            | cons _ _ => exact nomatch h
            | nil =>
              have h : (bif behindInMarks op r then none else pbin (pcmp op) (pe m ns n l) (pe m ns n r)) = some z := h
              cases hm : behindInMarks op r with
              | true => rw [hm] at h; exact nomatch h
              | false =>
                rw [hm] at h
                have h : pbin (pcmp op) (pe m ns n l) (pe m ns n r) = some z := h
                have hb := pbin_some h
                generalize h1 : pe m ns n l = a1 at hb
                generalize h2 : pe m ns n r = a2 at hb
                generalize z.1 = z1 at hb ⊢
                generalize z.2 = z2 at hb ⊢
                cases hb with
                | mk hx hy hc => exact .cmp (ih _ _ h1) (ih _ _ h2) hm hx hy hc
    | call f as ks ps => exact pe_call h
    | other => exact nomatch h
theorem PV.all_num {p : PV} {i : Int} {P : Value → Prop} (h : p.num = some i) (k : ∀ t, P (.int i t)) : p.all P := by
  cases p with
  | val v => obtain ⟨t, rfl⟩ := numV_some h; exact k t
  | int j => cases h; exact k
  | _ => cases h
section
variable {w : World} {A : Around} {h₀ : Heap} {L a : Addr} {m mg mb : Str → Option Value} {cn : Str} {cs : Scope} {ccd : Value} {cl : List (Str × Addr)} {p : Program} {loose : List Str} {mean : ExcName → Option Value}
theorem ns_len (pp : Params) : nsIn (Mine.hd0.heap_1 pp) mainGlobals (Str.ofString "len") = some none := by
  have hK : (fun (_ : OpenLaw) (_ : Params → Frag) => True) PySem.Challenge.rw_rx0047_01 Mine.hd0.heap_1 := by (k_fill; trivial)
  refine Eq.trans (b := some none) ?_ rfl
  k_is
theorem pop_go {op : Operator} {x y : Int} {pv : PV} (h : pop op x y = some pv) {t u : Tok} {s : Shared} {E : Value → Shared → Prop} {Q : Value → Shared → Prop} (k : ∀ tk, pv.all fun v => Q v { s with toks := tk }) :
    wpAny (model PySem.Challenge.rw_rx0047_01.prog w) A (binaryOp op (.int x t) (.int y u)) Q E s := by
  cases op with
  | Add => cases h; exact add_int (k _ _)
  | Sub => cases h; exact sub_int (k _ _)
  | _ => exact nomatch h
theorem pcmp_go {op : CmpOp} {x y : Int} {b : PV} (h : pcmp op x y = some b) {t u : Tok} {s : Shared} {E : Value → Shared → Prop} {Q : Value → Shared → Prop} (k : b.all fun v => Q v s) :
    wpAny (model PySem.Challenge.rw_rx0047_01.prog w) A (compareOp op (.int x t) (.int y u)) Q E s := by
  cases op with
  | Eq => cases h; exact eq_int k
  | NotEq => cases h; exact ne_int k
  | Lt => cases h; exact lt_int k
  | LtE => cases h; exact le_int k
  | Gt => cases h; exact gt_int k
  | GtE => cases h; exact ge_int k
  | _ => exact nomatch h
theorem pe_sound (hk : cs.kind = .function) (X : (Mine.hd0.heap_1 w.params).In h₀) (T : TopRead p loose mg mb h₀) (hdb : cs.names.lookup (Str.ofString "__debug__") = none) :
    ∀ (n : Nat) (e : Expr) (pv : PV) (k : Nat), pe m cs.names n e = some (pv, k) → k ≤ 16777216 → ∀ {E : Value → Shared → Prop} {Q : Value → Shared → Prop} {s : Shared}, Fr h₀ L s.heap m →
      (∀ tk, pv.all fun v => Q v { s with toks := tk }) → wpAny (model PySem.Challenge.rw_rx0047_01.prog w) A (eval e (envX cn cs L a ccd cl)) Q E s := by
  have hdn : ∀ x kd, cs.names.lookup x = some kd → (x == ("__debug__" : Str)) = false := by
    intro x kd hx
    cases q : (x == ("__debug__" : Str)) with
    | false => rfl
    | true =>
      have : x = Str.ofString "__debug__" := by simpa using q
      rw [this, hdb] at hx; cases hx
  intro n e pv k h
  have hp : PE m cs.names e pv k := pe_PE n e (pv, k) h
  clear h
  induction hp with
  | name hx hv => intro _ E Q s F hq; exact nameX_L F hv (hq s.toks) hk hx (hdn _ _ hx)
  | int => intro _ E Q s F hq; exact wpAny_Constant_int (hq _ _)
  | str => intro _ E Q s F hq; exact Constant_str (hq _ _)
  | bin _ _ hx hy hc ih1 ih2 =>
    intro hkk E Q s F hq
    refine wpAny_BinOp (ih1 (Nat.le_trans (Nat.le_add_right _ _) hkk) F fun tk => PV.all_num hx fun t => ?_)
    refine ih2 (Nat.le_trans (Nat.le_add_left _ _) hkk) F fun tk2 => PV.all_num hy fun u => ?_
    exact pop_go hc (fun tk => hq tk)
  | cmp _ _ hm hx hy hc ih1 ih2 =>
    intro hkk E Q s F hq
    refine wpAny_Compare1 (ih1 (Nat.le_trans (Nat.le_add_right _ _) hkk) F fun tk => PV.all_num hx fun t => ?_) hm
    refine ih2 (Nat.le_trans (Nat.le_add_left _ _) hkk) F fun tk2 => PV.all_num hy fun u => ?_
    exact pcmp_go hc (hq _)
  | @len p1 y p2 p3 l t hf hx hm =>
    intro hkk E Q s F hq
    refine Call_ ?_
    refine nameX_B F X T (ns_len _) (v := .builtin "len") (by boot_fast) (by decide) ?_ hk hf (by decide)
    refine PyProof.Rows.callWith_builtin1 ?_
    refine args_cons (nameX_L F hm (args_nil ?_) hk hx (hdn y _ hx))
    refine P.len_str ?_ (hq _ _)
    show ¬ ((l.length : Nat) : Int) ≥ 2 ^ 63
    exact Int.not_le.mpr (ic63 hkk rfl)
theorem PV.all_mono {p : PV} {P R : Value → Prop} (h : p.all P) (k : ∀ v, P v → R v) : p.all R := by
  cases p with
  | val v => exact k _ h
  | int i => exact fun t => k _ (h t)
  | str x => exact fun t => k _ (h t)
  | bool b => exact k _ h
theorem pe_int {n k : Nat} {e : Expr} {i : Int} {E : Value → Shared → Prop} {Q : Value → Shared → Prop} {s : Shared} (F : Fr h₀ L s.heap m) (X : (Mine.hd0.heap_1 w.params).In h₀) (T : TopRead p loose mg mb h₀)
    (h : pe m cs.names n e = some (.int i, k)) (hkk : k ≤ 16777216) (hq : ∀ tk t, Q (.int i t) { s with toks := tk }) (hk : cs.kind = .function) (hdb : cs.names.lookup (Str.ofString "__debug__") = none) :
    wpAny (model PySem.Challenge.rw_rx0047_01.prog w) A (eval e (envX cn cs L a ccd cl)) Q E s := pe_sound hk X T hdb n e _ k h hkk F hq
theorem pe_bool {n k : Nat} {e : Expr} {b : Bool} {E : Value → Shared → Prop} {Q : Value → Shared → Prop} {s : Shared} (F : Fr h₀ L s.heap m) (X : (Mine.hd0.heap_1 w.params).In h₀) (T : TopRead p loose mg mb h₀)
    (h : pe m cs.names n e = some (.bool b, k)) (hkk : k ≤ 16777216) (hq : ∀ tk, Q (.bool b) { s with toks := tk }) (hk : cs.kind = .function) (hdb : cs.names.lookup (Str.ofString "__debug__") = none) :
    wpAny (model PySem.Challenge.rw_rx0047_01.prog w) A (eval e (envX cn cs L a ccd cl)) Q E s := pe_sound hk X T hdb n e _ k h hkk F hq
theorem PV.all_swap {p : PV} {P : Nat → Value → Prop} (h : ∀ tk, p.all (P tk)) : p.all fun v => ∀ tk, P tk v := by
  cases p with
  | val v => exact h
  | int i => exact fun t tk => h tk t
  | str x => exact fun t tk => h tk t
  | bool b => exact h
theorem pe_two {n k j : Nat} {l r : Expr} {p1 p2 : PV} {E : Value → Shared → Prop} {R : Value → Value → Shared → Prop} {s : Shared} (F : Fr h₀ L s.heap m) (X : (Mine.hd0.heap_1 w.params).In h₀) (T : TopRead p loose mg mb h₀)
    (h1 : pe m cs.names n l = some (p1, j)) (h2 : pe m cs.names n r = some (p2, k)) (hkk : j + k ≤ 16777216) (hq : ∀ tk, p1.all fun v => p2.all fun u => R v u { s with toks := tk }) (hk : cs.kind = .function) (hdb : cs.names.lookup (Str.ofString "__debug__") = none) :
    wpAny (model PySem.Challenge.rw_rx0047_01.prog w) A (eval l (envX cn cs L a ccd cl)) (fun v s₁ => wpAny (model PySem.Challenge.rw_rx0047_01.prog w) A (eval r (envX cn cs L a ccd cl)) (fun u s₂ => R v u s₂) E s₁) E s :=
  pe_sound hk X T hdb n l _ j h1 (Nat.le_trans (Nat.le_add_right _ _) hkk) F fun tk => PV.all_mono (PV.all_swap hq) fun v hv => pe_sound hk X T hdb n r _ k h2 (Nat.le_trans (Nat.le_add_left _ _) hkk) F fun tk2 => hv tk2
theorem pe_is {n k j : Nat} {l r : Expr} {op : CmpOp} {pos : Pos} {whole : Sem Value} {p1 p2 : PV} {x y : Int} {b : Bool} {E : Value → Shared → Prop} {Q : Bool → Shared → Prop} {s : Shared} (F : Fr h₀ L s.heap m) (X : (Mine.hd0.heap_1 w.params).In h₀) (T : TopRead p loose mg mb h₀)
    (h1 : pe m cs.names n l = some (p1, j)) (h2 : pe m cs.names n r = some (p2, k)) (hx : p1.num = some x) (hy : p2.num = some y) (hc : pcmp op x y = some (.bool b)) (hkk : j + k ≤ 16777216) (hq : ∀ tk, Q b { s with toks := tk }) (hk : cs.kind = .function) (hdb : cs.names.lookup (Str.ofString "__debug__") = none) (hm : behindInMarks op r = false) :
    wpAny (model PySem.Challenge.rw_rx0047_01.prog w) A (isTrue (.Compare l [op] [r] pos) (envX cn cs L a ccd cl) whole) Q E s :=
  wpAny_isTrue_Compare1 (pe_two F X T h1 h2 hkk (fun tk => PV.all_num hx fun t => PV.all_num hy fun u => pcmp_go hc (wpAny_truthy_bool (hq tk))) hk hdb) hm
theorem pe_isc {n k j : Nat} {l r : Expr} {op : CmpOp} {pos : Pos} {whole : Sem Value} {p1 p2 : PV} {E : Value → Shared → Prop} {Q : Bool → Shared → Prop} {s : Shared} (F : Fr h₀ L s.heap m) (X : (Mine.hd0.heap_1 w.params).In h₀) (T : TopRead p loose mg mb h₀)
    (h1 : pe m cs.names n l = some (p1, j)) (h2 : pe m cs.names n r = some (p2, k)) (hkk : j + k ≤ 16777216) (hq : ∀ tk, p1.all fun v => p2.all fun u => wpAny (model PySem.Challenge.rw_rx0047_01.prog w) A (compareOp op v u) (fun c s₃ => wpAny (model PySem.Challenge.rw_rx0047_01.prog w) A (truthy c) Q E s₃) E { s with toks := tk }) (hk : cs.kind = .function) (hdb : cs.names.lookup (Str.ofString "__debug__") = none) (hm : behindInMarks op r = false) :
    wpAny (model PySem.Challenge.rw_rx0047_01.prog w) A (isTrue (.Compare l [op] [r] pos) (envX cn cs L a ccd cl) whole) Q E s :=
  wpAny_isTrue_Compare1 (pe_two F X T h1 h2 hkk hq hk hdb) hm
theorem pe_evc {n k j : Nat} {l r : Expr} {op : CmpOp} {pos : Pos} {p1 p2 : PV} {E : Value → Shared → Prop} {Q : Value → Shared → Prop} {s : Shared} (F : Fr h₀ L s.heap m) (X : (Mine.hd0.heap_1 w.params).In h₀) (T : TopRead p loose mg mb h₀)
    (h1 : pe m cs.names n l = some (p1, j)) (h2 : pe m cs.names n r = some (p2, k)) (hkk : j + k ≤ 16777216) (hq : ∀ tk, p1.all fun v => p2.all fun u => wpAny (model PySem.Challenge.rw_rx0047_01.prog w) A (compareOp op v u) Q E { s with toks := tk }) (hk : cs.kind = .function) (hdb : cs.names.lookup (Str.ofString "__debug__") = none) (hm : behindInMarks op r = false) :
    wpAny (model PySem.Challenge.rw_rx0047_01.prog w) A (eval (.Compare l [op] [r] pos) (envX cn cs L a ccd cl)) Q E s :=
  wpAny_Compare1 (pe_two F X T h1 h2 hkk hq hk hdb) hm
theorem pe_bin {n k j : Nat} {l r : Expr} {op : Operator} {pos : Pos} {p1 p2 : PV} {E : Value → Shared → Prop} {Q : Value → Shared → Prop} {s : Shared} (F : Fr h₀ L s.heap m) (X : (Mine.hd0.heap_1 w.params).In h₀) (T : TopRead p loose mg mb h₀)
    (h1 : pe m cs.names n l = some (p1, j)) (h2 : pe m cs.names n r = some (p2, k)) (hkk : j + k ≤ 16777216) (hq : ∀ tk, p1.all fun v => p2.all fun u => wpAny (model PySem.Challenge.rw_rx0047_01.prog w) A (binaryOp op v u) Q E { s with toks := tk }) (hk : cs.kind = .function) (hdb : cs.names.lookup (Str.ofString "__debug__") = none) :
    wpAny (model PySem.Challenge.rw_rx0047_01.prog w) A (eval (.BinOp l op r pos) (envX cn cs L a ccd cl)) Q E s :=
  wpAny_BinOp (pe_two F X T h1 h2 hkk hq hk hdb)
theorem pe_sub {n k j : Nat} {l r : Expr} {pos : Pos} {p1 p2 : PV} {E : Value → Shared → Prop} {Q : Value → Shared → Prop} {s : Shared} (F : Fr h₀ L s.heap m) (X : (Mine.hd0.heap_1 w.params).In h₀) (T : TopRead p loose mg mb h₀)
    (h1 : pe m cs.names n l = some (p1, j)) (h2 : pe m cs.names n r = some (p2, k)) (hkk : j + k ≤ 16777216) (hq : ∀ tk, p1.all fun v => p2.all fun u => wpAny (model PySem.Challenge.rw_rx0047_01.prog w) A (subscriptTail l r v u) Q E { s with toks := tk }) (hk : cs.kind = .function) (hdb : cs.names.lookup (Str.ofString "__debug__") = none) :
    wpAny (model PySem.Challenge.rw_rx0047_01.prog w) A (eval (.Subscript l r pos) (envX cn cs L a ccd cl)) Q E s :=
  Subscript_ (pe_two F X T h1 h2 hkk hq hk hdb)
noncomputable def alls : List PV → (List Value → Prop) → Prop
  | [], P => P []
  | p :: ps, P => p.all fun v => alls ps fun vs => P (v :: vs)
noncomputable def pel2 : Option (PV × Nat) → Option (List PV × Nat) → Option (List PV × Nat)
  | none, _ => none
  | some _, none => none
  | some a, some b => some (a.1 :: b.1, a.2 + b.2)
noncomputable def pel (m : Str → Option Value) (ns : List (Str × NameKind)) (n : Nat) : List Expr → Option (List PV × Nat)
  | [] => some ([], 0)
  | e :: es => pel2 (pe m ns n e) (pel m ns n es)
theorem alls_swap : ∀ {ps : List PV} {P : Nat → List Value → Prop}, (∀ tk, alls ps (P tk)) → alls ps fun v => ∀ tk, P tk v
  | [], _, h => h
  | _ :: ps, P, h => PV.all_mono (PV.all_swap (P := fun tk v => alls ps fun vs => P tk (v :: vs)) h) fun v hv => alls_swap hv
theorem pel_some {m : Str → Option Value} {ns : List (Str × NameKind)} {n : Nat} {e : Expr} {es : List Expr} {x : List PV × Nat} (h : pel m ns n (e :: es) = some x) : ∃ p j ps k, pe m ns n e = some (p, j) ∧ pel m ns n es = some (ps, k) ∧ x = (p :: ps, j + k) := by
  have h : pel2 (pe m ns n e) (pel m ns n es) = some x := h
  cases q : pe m ns n e with
  | none => rw [q] at h; cases h
  | some a =>
    cases r : pel m ns n es with
    | none => rw [q, r] at h; cases h
    | some b => rw [q, r] at h; cases h; exact ⟨a.1, a.2, b.1, b.2, rfl, rfl, rfl⟩
theorem pe_star {n : Nat} {e : Expr} {x : PV × Nat} {rest : List Expr} {env : Env} {ns : List (Str × NameKind)} (h1 : pe m ns n e = some x) : starEach (e :: rest) env = (false, eval e env) :: starEach rest env := by
  cases n with
  | zero => cases h1
  | succ n =>
    have h : pe1 m ns (pe m ns n) (vw e) = some x := h1
    clear h1
    have hv := vw_spec e
    generalize vw e = u at h hv
    cases hv with
    | other => exact nomatch h
    | _ => rfl
theorem pe_args (hk : cs.kind = .function) (X : (Mine.hd0.heap_1 w.params).In h₀) (T : TopRead p loose mg mb h₀) (hdb : cs.names.lookup (Str.ofString "__debug__") = none) {n : Nat} {pos : Pos} {E : Value → Shared → Prop} (es : List Expr) :
    ∀ (ps : List PV) (k : Nat), pel m cs.names n es = some (ps, k) → k ≤ 16777216 → ∀ {Q : List Value → Shared → Prop} {s : Shared}, Fr h₀ L s.heap m →
      (∀ tk, alls ps fun vs => Q vs { s with toks := tk }) → wpAny (model PySem.Challenge.rw_rx0047_01.prog w) A (spliced (backTo pos (starEach es (envX cn cs L a ccd cl)))) Q E s := by
  induction es with
  | nil => intro ps k h _ Q s F hq; cases h; exact args_nil (hq s.toks)
  | cons e es ih =>
    intro ps k h hkk Q s F hq
    obtain ⟨p1, j, ps', k', h1, h2, e9⟩ := pel_some h
    cases e9
    exact args_cons (pe_sound hk X T hdb n e _ j h1 (Nat.le_trans (Nat.le_add_right _ _) hkk) F fun tk => PV.all_mono (PV.all_swap hq) fun v hv => ih _ _ h2 (Nat.le_trans (Nat.le_add_left _ _) hkk) F fun tk => hv tk) (pe_star h1)
theorem pe_arg {n k : Nat} {es : List Expr} {pos : Pos} {ps : List PV} {E : Value → Shared → Prop} {Q : List Value → Shared → Prop} {s : Shared} (F : Fr h₀ L s.heap m) (X : (Mine.hd0.heap_1 w.params).In h₀) (T : TopRead p loose mg mb h₀)
    (h : pel m cs.names n es = some (ps, k)) (hkk : k ≤ 16777216) (hq : ∀ tk, alls ps fun vs => Q vs { s with toks := tk }) (hk : cs.kind = .function) (hdb : cs.names.lookup (Str.ofString "__debug__") = none) :
    wpAny (model PySem.Challenge.rw_rx0047_01.prog w) A (spliced (backTo pos (starEach es (envX cn cs L a ccd cl)))) Q E s := pe_args hk X T hdb es ps k h hkk F hq
theorem pe_aug {n k : Nat} {e : Expr} {x : Str} {pos pos' : Pos} {pv : PV} {i j : Int} {t0 : Tok} {E : Value → Shared → Prop} {Q : Flow → Shared → Prop} {s : Shared} (F : Fr h₀ L s.heap m) (X : (Mine.hd0.heap_1 w.params).In h₀) (T : TopRead p loose mg mb h₀)
    (hx : cs.names.lookup x = some .local) (hv : m x = some (.int i t0)) (h : pe m cs.names n e = some (pv, k)) (hy : pv.num = some j) (hkk : k ≤ 16777216)
    (hq : ∀ tk t, wpAny (model PySem.Challenge.rw_rx0047_01.prog w) A (storeName (envX cn cs L a ccd cl) x (.int (i + j) t)) (fun _ => Q .next) E { s with toks := tk }) (hk : cs.kind = .function) (hdb : cs.names.lookup (Str.ofString "__debug__") = none) :
    wpAny (model PySem.Challenge.rw_rx0047_01.prog w) A (exec (.AugAssign (.Name x pos') .Add e pos) (envX cn cs L a ccd cl)) Q E s :=
  wpAny_AugAssign_Name (wpAny_loadName_local hk hx F.ns hv (pe_sound hk X T hdb n e pv k h hkk F fun tk => PV.all_num hy fun t => PyProof.Rows.iadd_int (hq _ _)))
end
end Mine
end
section
open PySem PySem.Spec PySem.Calls PyProof.Rows PySem.W
open PySem.Builtin PySem.Builtin.Re
set_option maxHeartbeats 4000000
namespace Mine
theorem kw7 : True := by
  (k_with "9execs cons" => ((with_reducible rename FoldOn => fo9); (with_reducible rename Fr _ _ _ _ => F9); refine stf F9 ?_; clear F9; intro tk9 q9 m9 F9; (try dsimp only); refine wpAny_execs_cons ?_))
  (k_with "9eval BinOp" => ((with_reducible rename FoldOn => fo9); with_unfolding_all first | refine' pe_int (n := 6) ?F ?X ?T ?h ?k ?_ ?a ?b; (case F => k_asm); (case h => rfl); walk_at "co"; intro _ _ | refine' pe_bin (n := 5) ?F ?X ?T ?h1 ?h2 ?k ?_ ?a ?b; (case F => k_asm); (case h1 => rfl); (case h2 => rfl); walk_at "co"; intro _; (try dsimp only [PV.all]); intros))
  (k_with "9exec AugAssign" => ((with_reducible rename FoldOn => fo9); with_unfolding_all refine' pe_aug (n := 5) ?F ?X ?T ?x ?v ?h ?y ?k ?_ ?a ?b; (case F => k_asm); (case x => rfl); (case v => rfl); (case h => rfl); (case y => rfl); walk_at "co"; intro _ _))
  (k_with "9eval Compare" => ((with_reducible rename FoldOn => fo9); with_unfolding_all first | refine' pe_bool (n := 6) ?F ?X ?T ?h ?k ?_ ?a ?b; (case F => k_asm); (case h => rfl); walk_at "co"; intro _ | refine' pe_evc (n := 5) ?F ?X ?T ?h1 ?h2 ?k ?_ ?a ?b ?c; (case F => k_asm); (case c => rfl); (case h1 => rfl); (case h2 => rfl); walk_at "co"; intro _; (try dsimp only [PV.all]); intros))
  (k_with "9eval Subscript" => ((with_reducible rename FoldOn => fo9); with_unfolding_all refine' pe_sub (n := 5) ?F ?X ?T ?h1 ?h2 ?k ?_ ?a ?b; (case F => k_asm); (case h1 => rfl); (case h2 => rfl); walk_at "co"; intro _; (try dsimp only [PV.all]); intros))
  (k_with "9eval Call" => ((with_reducible rename FoldOn => fo9); with_unfolding_all refine' pe_int (n := 6) ?F ?X ?T ?h ?k ?_ ?a ?b; (case F => k_asm); (case h => rfl); walk_at "co"; intro _ _))
  (k_with "9isTrue Compare" => ((with_reducible rename FoldOn => fo9); with_unfolding_all first | refine' pe_is (n := 5) ?F ?X ?T ?h1 ?h2 ?x ?y ?z ?k ?_ ?a ?b ?c; (case F => k_asm); (case h1 => rfl); (case h2 => rfl); (case x => rfl); (case y => rfl); (case z => rfl); (case c => rfl); walk_at "co"; intro _ | refine' pe_isc (n := 5) ?F ?X ?T ?h1 ?h2 ?k ?_ ?a ?b ?c; (case F => k_asm); (case c => rfl); (case h1 => rfl); (case h2 => rfl); walk_at "co"; intro _; (try dsimp only [PV.all]); intros))
  (k_with "9spliced" => ((with_reducible rename FoldOn => fo9); with_unfolding_all refine' pe_arg (n := 5) ?F ?X ?T ?h ?k ?_ ?a ?b; (case F => k_asm); (case h => rfl); walk_at "co"; intro _; (try dsimp only [PV.all, alls, List.nil_append, List.cons_append]); intros))
  (k_with "ksw_same" => (intro z h2 h3; (try dsimp +zetaDelta only); first | rfl | simp only [List.forall_mem_cons, List.not_mem_nil, false_implies, implies_true, and_true, ne_eq] at h2; simp [h2]; done | simp only [List.contains_cons, List.contains_nil, Bool.or_false, Bool.or_eq_false_iff, beq_eq_false_iff_ne, ne_eq] at h3; simp [h3]; done | simp only [List.forall_mem_cons, List.not_mem_nil, false_implies, implies_true, and_true, ne_eq] at h2; simp only [List.contains_cons, List.contains_nil, Bool.or_false, Bool.or_eq_false_iff, beq_eq_false_iff_ne, ne_eq] at h3; simp [h2, h3]; done))
  trivial
noncomputable def drv : Nat → Sre.M → Option Sre.M
  | 0, _ => none
  | k + 1, m => if (m.runFor reTurnSteps).outcome.isSome then some (m.runFor reTurnSteps) else drv k (m.runFor reTurnSteps)
section
variable {prog : Program} {w : World} {M : Model} {A : Around} {E : Value → Shared → Prop} {s : Shared}
theorem drive_to : ∀ {k n : Nat} {m m' : Sre.M} {Q : Sre.M → Shared → Prop}, drv k m = some m' → k ≤ n → Q m' s → wpAny M A (reDrive n m) Q E s
  | 0, _, _, _, _, h, _, _ => nomatch h
  | k + 1, 0, _, _, _, _, h, _ => absurd h (Nat.not_succ_le_zero _)
  | k + 1, n + 1, m, m', Q, h, hk, hq => by
    unfold drv at h
    show wpAny M A (if (m.runFor reTurnSteps).outcome.isSome then pure (m.runFor reTurnSteps) else do rule "sre.turn"; reDrive n (m.runFor reTurnSteps)) Q E s
    split at h
    · rename_i ho
      cases h
      rw [if_pos ho]
      exact wpAny_pure hq
    · rename_i ho
      rw [if_neg ho]
      exact wpAny_bind (wpAny_rule (drive_to h (Nat.le_of_succ_le_succ hk) hq))
theorem rules_all {c : Nat → Bool} {nm : Nat → String} {Q : PUnit → Shared → Prop} : ∀ (l : List Nat), Q ⟨⟩ s → wpAny M A (forIn l PUnit.unit fun i _ => if c i = true then do rule (nm i); pure (ForInStep.yield PUnit.unit) else pure (ForInStep.yield PUnit.unit)) Q E s
  | [], h => by rw [List.forIn_nil]; exact wpAny_pure h
  | a :: l, h => by
    rw [List.forIn_cons]
    refine wpAny_bind ?_
    split
    · exact wpAny_bind (wpAny_rule (wpAny_pure (rules_all l h)))
    · exact wpAny_pure (rules_all l h)
noncomputable def failsOn (code : Array Nat) (x : Array Nat) : Bool := match drv 60 (Sre.forSearch code x 1 0 x.size false) with
  | some m => match m.outcome with | some .failed => true | _ => false
  | none => false
noncomputable def codeA : Array Nat := #[14, 14, 4, 1, 1, 9, 0, 64, 0, 1342177280, 0, 0, 0, 0, 0, 17, 0, 13, 11, 9, 0, 64, 0, 1342177280, 0, 0, 0, 0, 0, 17, 1, 1]
theorem fails1 : [42, 63, 46, 97, 93, 91].all (fun c => failsOn codeA #[c]) = true := by decide +kernel
theorem fails2 : [92, 45].all (fun c => failsOn codeA #[92, c]) = true := by decide +kernel
theorem run_fails {x : Array Nat} {Q : Option Sre.M → Shared → Prop} (h : failsOn codeA x = true) (hq : Q none s) : wpAny M A (reRunToEnd (Sre.forSearch codeA x 1 0 x.size false)) Q E s := by
  unfold failsOn at h
  split at h
  · rename_i m hm
    split at h
    · rename_i ho
      unfold reRunToEnd
      refine wpAny_bind (drive_to hm (by decide +kernel) ?_)
      refine wpAny_bind (rules_all (c := fun i => m.seen.has i) _ ?_)
      rw [ho]
      exact wpAny_pure hq
    · cases h
  · cases h
end
noncomputable abbrev reO : Obj := { cls := Value.type "re.Pattern", data := Data.fields #[Value.str (Str.ofString "([&~|])") 327, Value.int 32 362, Value.int 1 0, Value.none, Value.none, Value.ref 62, Value.int 0 0] }
noncomputable abbrev codeO : Obj := { cls := Value.type "tuple", data := Data.seq (codeA.map fun (k : Nat) => Value.int k 0) }
theorem sub_slot : Slot "re.Pattern" "sub" "re.Pattern.sub" :=
  .of (owner := "re.Pattern") (n := "sub") (by rw [typeLookup_type, builtinLookup_eq_fast]; kernel_rfl) (by decide +kernel) (by decide +kernel) (by decide +kernel)
    (by first | exact .inl (by decide +kernel) | exact .inr (by decide +kernel)) (by rw [isSubtype_type]; kernel_rfl)
theorem sub_entry : entryFor table "re.Pattern.sub" = some Builtin.«re.Pattern.sub» := entryFor_of_tree (by kernel_rfl)
theorem subl_entry : entryFor table "re.Pattern.sub.loop" = some Builtin.«re.Pattern.sub.loop» := entryFor_of_tree (by kernel_rfl)
theorem sub_type : typeOf (.builtin "re.Pattern.sub") = pure (.type "method_descriptor") := by show builtinType _ = _; rw [builtinType_eq_fast]; kernel_rfl
theorem sub_owner : Manifest.owners.lookup (String.ofList ['n', 'r', 'e', 't', 't', 'a', 'P', '.', 'e', 'r'].reverse) = some Manifest.sig_re_Pattern := by kernel_rfl
theorem sub_args (a b c : Value) : argsOk "re.Pattern.sub" ⟨[a, b, c], []⟩ := by
  unfold argsOk; kernel_rfl
theorem fn_call : typeLookup (.type "function") "__call__" = pure (some (.builtin "function.__call__")) := by rw [typeLookup_type, builtinLookup_eq_fast]; kernel_rfl
end Mine
end
section
open PySem PySem.Spec PySem.Calls PyProof.Rows PySem.W
open PySem.Builtin PySem.Builtin.Re
set_option maxHeartbeats 1000000
namespace Mine
section
variable {prog : Program} {w : World} {M : Model} {A : Around} {E : Value → Shared → Prop} {s : Shared}
theorem sub_ba : isSubtype (.type "str") (.type "bytearray") = pure false := by rw [isSubtype_type]; kernel_rfl
theorem code62 : ({ cls := Value.type "tuple", data := Data.seq #[Value.int 14 0, Value.int 14 0, Value.int 4 0, Value.int 1 0, Value.int 1 0, Value.int 9 0, Value.int 0 0, Value.int 64 0, Value.int 0 0, Value.int 1342177280 0, Value.int 0 0, Value.int 0 0, Value.int 0 0, Value.int 0 0, Value.int 0 0, Value.int 17 0, Value.int 0 0, Value.int 13 0, Value.int 11 0, Value.int 9 0, Value.int 0 0, Value.int 64 0, Value.int 0 0, Value.int 1342177280 0, Value.int 0 0, Value.int 0 0, Value.int 0 0, Value.int 0 0, Value.int 0 0, Value.int 17 0, Value.int 1 0, Value.int 1 0] } : Obj) = codeO := by
  simp [codeA]
theorem code_back : Array.map (fun (x : Int) => x.toNat) (Array.map reRawOf ((some (Array.map (fun (k : Nat) => Value.int k 0) codeA)).getD #[])) = codeA := by decide +kernel
theorem subl_plain : plainId "re.Pattern.sub.loop" = true := by decide +kernel
theorem sub_target {x : Str} {t : Tok} {Q : ReTarget → Shared → Prop} (h63 : s.heap.get? 63 = some reO) (h62 : s.heap.get? 62 = some codeO)
    (h : Q { pattern := .ref 63, string := .str x t, code := codeA, text := x.cps, kind := 0, groups := 1, pos := 0, lim := x.cps.size } s) : wpAny (model prog w) A (reWholeTarget (.ref 63) (.str x t)) Q E s := by
  unfold reWholeTarget
  obtain ⟨hp, g, d, tk, os⟩ := s
  have hT : (⟨hp, g, d, tk, os⟩ : Shared).TypeIs (.ref 62) "tuple" := ⟨_, h62, rfl⟩
  refine wpAny_bind (wpAny_fieldsOf h63 rfl ?_)
  unfold reTextOf
  repeat k_extra "wq"
  rw [show Array.map (fun (x : Int) => x.toNat) (Array.map reRawOf ((some (Array.map (fun (k : Nat) => Value.int k 0) codeA)).getD #[])) = codeA from code_back]
  exact h
theorem sub_loop {x : Str} {t : Tok} {lam P : Addr} {n : Nat} {k1 k2 k3 k4 k5 : Tok} {R : Result → Shared → Prop} (h63 : s.heap.get? 63 = some reO) (h62 : s.heap.get? 62 = some codeO) (hP : s.heap.get? P = some (W.listOf #[] n))
    (hf : failsOn codeA x.cps = true) (hx : x.length ≤ 2) (hx0 : 0 < x.cps.size) (h : ∀ h' t' tk, (∀ b o, b ≠ P → s.heap.get? b = some o → h'.get? b = some o) → R (.ok (.ret (.str x t'))) { s with heap := h', toks := tk }) :
    codeAny (model prog w) A (.builtin "re.Pattern.sub.loop" ⟨[.ref 63, .str x t, .ref lam, .int 1 k1, .int 0 k2, .int 0 k3, .int 0 k4, .int 0 k5, .bool false, .ref P, .bool false], []⟩) R s := by
  refine codeAny_builtin subl_entry ?_
  rw [Around.under_plainId subl_plain _]
  unfold Builtin.«re.Pattern.sub.loop»
  dsimp only
  refine wpAny_bind (sub_target h63 h62 ?_)
  refine KFB.if_not (by decide) ?_
  unfold reNextFound
  refine wpAny_bind ?_
  refine KFB.if_not (by decide) ?_
  refine run_fails hf ?_
  dsimp only
  rw [if_pos (show Int.toNat 0 < x.cps.size from hx0)]
  obtain ⟨hp, g, d, tk, os⟩ := s
  have hsl : (⟨x.cps.extract (Int.toNat 0) x.cps.size⟩ : Str) = x := by
    show (⟨x.cps.extract 0 x.cps.size⟩ : Str) = x
    rw [Array.extract_size]
  have hm : ∀ {x : Str} {M : Model} {A E tk hp} {Q : Value → Shared → Prop}, x.length ≤ 2 → Q (.str x tk) ⟨hp, g, d, tk + 1, os⟩ → wpAny M A (mkStr x) Q E ⟨hp, g, d, tk, os⟩ := fun hx hq => wpAny_mkStr' hq (Nat.le_trans hx (by rw [sizeLine_eq]; decide))
  refine wpAny_bind ?_
  unfold reSlice
  refine KFB.if_so rfl ?_
  rw [hsl]
  refine hm hx ?_
  refine wpAny_bind (wpAny_updateSeq hP rfl ?_ (hz := by rw [sizeLine_eq]; decide) (_hz' := by rw [Array.size_push, sizeLine_eq]; show 0 + 1 ≤ _; omega))
  refine wpAny_bind ?_
  refine KFB.if_so rfl ?_
  have hs0 : (⟨x.cps.extract 0 0⟩ : Str) = S [] := by
    show (⟨x.cps.extract 0 0⟩ : Str) = ⟨#[]⟩
    rw [Array.extract_eq_empty_of_le (by omega)]
  rw [hs0]
  refine hm (by decide) ?_
  have hPl : (hp.update P (Obj.mapSeq fun xs => xs.push (Value.str x tk))).get? P = some (W.listOf #[.str x tk] (n + 1)) := by
    rw [Heap.get?_update_self _ hP (by rw [mapSeq_push]; rfl), mapSeq_push]; rfl
  refine wpAny_bind (wpAny_seqItems hPl rfl ?_)
  refine KFB.if_not (by rfl) ?_
  refine wpAny_bind ?_
  refine join_listW (items := #[.str x tk]) (ys := [x]) ⟨_, hPl, rfl, _, rfl⟩ (.cons _ _ .nil) (by decide) (by have hx' : x.cps.size ≤ 2 := hx; show x.cps.size + 0 + 1 ≤ 1048576; omega) fun t' k => ?_
  refine KFB.if_not (by rfl) ?_
  refine wpAny_pure ?_
  have e1 : Txt.join (S []) [x] = x := by
    have := glued_S [x.cps.toList]
    rw [List.flatten_cons, List.flatten_nil, List.append_nil] at this
    exact this
  show R (.ok (.ret (.str (Txt.join (S []) [x]) t'))) _
  rw [e1]
  exact h _ t' k fun b o nb e => (Heap.get?_update_other _ _ (Ne.symm nb)).trans e
theorem r_sub {x : Str} {t : Tok} {lam : Addr} {ol : Obj} {Q : Value → Shared → Prop} (h63 : s.heap.get? 63 = some reO) (h62 : s.heap.get? 62 = some codeO) (hlam : s.heap.get? lam = some ol) (hcl : ol.cls = .type "function")
    (hf : failsOn codeA x.cps = true) (hx : x.length ≤ 2) (hx0 : 0 < x.cps.size) (h : ∀ h' t' tk, s.heap.StaysIn h' → Q (.str x t') { s with heap := h', toks := tk }) :
    wpAny (model prog w) A (call (.builtin "re.Pattern.sub") [.ref 63, .ref lam, .str x t]) Q E s := by
  have hT : s.TypeIs (.ref 63) "re.Pattern" := ⟨_, h63, rfl⟩
  refine wpAny_call (codeAny_call_builtin sub_slot.plain sub_entry (sub_slot.check _ _ _ _ _ _ _ _ hT (sub_args _ _ _) ?_))
  unfold Builtin.«re.Pattern.sub» reSubstitute
  dsimp only
  refine wpAny_bind (wpAny_of_eq (a := [some (.ref lam), some (.str x t), none]) (by kernel_rfl) ?_)
  dsimp only
  refine wpAny_bind (wpAny_pure ?_)
  have hTl : s.TypeIs (.ref lam) "function" := ⟨_, hlam, hcl⟩
  refine wpAny_bind (wpAny_specialOf hTl fn_call ?_)
  rw [if_pos (show (some (Value.builtin "function.__call__")).isSome = true from rfl)]
  refine wpAny_bind (wpAny_pure ?_)
  rw [if_pos (show (some (Value.builtin "function.__call__")).isSome = true from rfl)]
  refine wpAny_bind (wpAny_pure ?_)
  dsimp only
  refine wpAny_bind (wpAny_holding (sub_target h63 h62 ?_))
  refine KFB.if_so (by rfl) ?_
  refine wpAny_bind ?_
  obtain ⟨hp, g, d, tk, os⟩ := s
  unfold reNotHeld
  refine wpAny_bind (wpAny_isInstance (T := "str") (typeIs_str _ _ _) sub_ba ?_)
  refine KFB.if_not rfl (wpAny_pure ?_)
  unfold newList
  refine wpAny_bind (wpAny_newObj_type ?_)
  refine wpAny_pure ⟨Code.quiet_builtin _ (by decide +kernel), ?_⟩
  refine sub_loop (P := hp.objs.size) (Heap.get?_push_of_some _ h63) (Heap.get?_push_of_some _ h62) (Heap.get?_push_size _ rfl) hf hx hx0 fun h' t' tk k => ?_
  exact h h' t' tk fun b o e => k b o (Nat.ne_of_lt (Heap.lt_size e)) (Heap.get?_push_of_some _ e)
theorem re_plainAttrs : PlainAttrs "re.Pattern" :=
  ⟨⟨"object.__getattribute__", by rw [typeLookup_type, builtinLookup_eq_fast]; kernel_rfl, by decide +kernel⟩, by rw [typeLookup_type, builtinLookup_eq_fast]; kernel_rfl⟩
theorem gm_sub {pl : Sem Bool} {Q : Value × List Value → Shared → Prop} (h63 : s.heap.get? 63 = some reO) (h : Q (.builtin "re.Pattern.sub", [.ref 63]) s) : wpAny M A (getMethod (.ref 63) "sub" pl) Q E s :=
  getMethod_builtin ⟨_, h63, rfl⟩ re_plainAttrs sub_slot sub_type (fun a e => by cases e; exact ⟨_, h63, rfl⟩) h
end
end Mine
end
section
open PySem PySem.Spec PySem.Calls PyProof.Rows PySem.W
set_option maxHeartbeats 4000000
namespace Mine
inductive WhEnd {σ : Type} (h₀ : Heap) (L : Addr) (s : Shared) (Led : σ → List (Addr × Obj)) (ps : σ → List (Str × Value)) (Facts : σ → Prop) (stored : List Str) (m₀ : Str → Option Value) (μ : σ → Nat) (c : σ) (s₂ : Shared) : Prop
  | mk (c' : σ) (m' : Str → Option Value) (news' : List (Addr × Obj)) (ho : s₂.os = s.os) (hb : AllBare s₂.gens) (F : Fr h₀ L s₂.heap m') (N : News h₀ L s₂.heap news') (hi : ∀ p ∈ Led c', p ∈ news') (hf : Facts c') (h1 : ∀ p ∈ ps c', m' p.1 = some p.2)
    (h2 : ∀ z, (∀ p ∈ ps c', z ≠ p.1) → stored.contains z = false → m' z = m₀ z) (hm : μ c' < μ c) : WhEnd h₀ L s Led ps Facts stored m₀ μ c s₂
noncomputable def WhPost {σ : Type} (h₀ : Heap) (L : Addr) (s : Shared) (Led : σ → List (Addr × Obj)) (ps : σ → List (Str × Value)) (Facts : σ → Prop) (stored : List Str) (m₀ : Str → Option Value) (μ : σ → Nat) (Q : Flow → Shared → Prop) (c : σ) (f : Flow) (s₂ : Shared) : Prop :=
  match f with
  | .ret v => Q (.ret v) s₂
  | .brk => Q .next s₂
  | _ => WhEnd h₀ L s Led ps Facts stored m₀ μ c s₂
section
variable {prog : Program} {w : World} {A : Around} {E : Value → Shared → Prop} {Q : Flow → Shared → Prop} {s : Shared} {env : Env} {h₀ : Heap} {L : Addr}
theorem whileS {σ : Type} {test : Expr} {body : List Stmt} {pos : Pos} {m₀ : Str → Option Value} (Led : σ → List (Addr × Obj)) (ps : σ → List (Str × Value)) (Facts : σ → Prop) (stored : List Str) (μ : σ → Nat) (c₀ : σ)
    (bare : AllBare s.gens) (F : Fr h₀ L s.heap m₀) (N : News h₀ L s.heap (Led c₀)) (hf : Facts c₀) (hk : ∀ p ∈ ps c₀, m₀ p.1 = some p.2)
    (turn : ∀ (c : σ) (u : Str → Option Value) (s₁ : Shared), s₁.os = s.os → AllBare s₁.gens → Facts c → Fr h₀ L s₁.heap (kstB (fun z => if stored.contains z then u z else m₀ z) (ps c)) → News h₀ L s₁.heap (Led c) →
      wpAny (model prog w) A (isTrue test env (eval test env)) (fun b s₂ =>
        if b = true then wpAny (model prog w) A (execs body env) (WhPost h₀ L s Led ps Facts stored m₀ μ Q c) E s₂ else Q .next s₂) E s₁)
    (hE : PassesOwn (model prog w) A env E := by passes_own) :
    wpAny (model prog w) A (exec (.While test body [] pos) env) Q E s := by
  refine wpAny_While (codeAny_whileLoop (fun n s' => ∃ (c : σ) (m : Str → Option Value), μ c = n ∧ s'.os = s.os ∧ AllBare s'.gens ∧ Fr h₀ L s'.heap m ∧ News h₀ L s'.heap (Led c) ∧ Facts c ∧ (∀ p ∈ ps c, m p.1 = some p.2) ∧ (∀ z, (∀ p ∈ ps c, z ≠ p.1) → stored.contains z = false → m z = m₀ z)) ?_ (μ c₀) ⟨c₀, m₀, rfl, rfl, bare, F, N, hf, hk, fun _ _ _ => rfl⟩)
  rintro n s' ⟨c, m, rfl, ho, hb, F₁, N₁, hf', h1, h2⟩
  refine wpAny_mono (turn c m s' ho hb hf' (ksw_fr h1 h2 F₁) N₁) (fun b s₂ h₂ => ?_) hE
  cases b with
  | false =>
    simp only [Bool.false_eq_true, if_false] at h₂ ⊢
    exact wpAny_execs_nil h₂
  | true =>
    simp only [if_true] at h₂ ⊢
    refine wpAny_mono h₂ (fun f s₃ h₃ => ?_) hE
    have go : WhEnd h₀ L s Led ps Facts stored m₀ μ c s₃ → ∃ k, k < μ c ∧ ∃ (c : σ) (m : Str → Option Value), μ c = k ∧ s₃.os = s.os ∧ AllBare s₃.gens ∧ Fr h₀ L s₃.heap m ∧ News h₀ L s₃.heap (Led c) ∧ Facts c ∧ (∀ p ∈ ps c, m p.1 = some p.2) ∧ (∀ z, (∀ p ∈ ps c, z ≠ p.1) → stored.contains z = false → m z = m₀ z) := by
      rintro ⟨c', m', news', a1, a2, a3, a4, a5, a6, a7, a8, a9⟩
      exact ⟨μ c', a9, c', m', rfl, a1, a2, a3, fun p hp => a4 p (a5 p hp), a6, a7, a8⟩
    cases f with
    | next => exact go h₃
    | cont => exact go h₃
    | brk => exact h₃
    | ret v => exact h₃
noncomputable def Unr (M : Model) (A : Around) (E : Value → Shared → Prop) (Q : Flow → Shared → Prop) (env : Env) (test : Expr) (body : List Stmt) : Nat → Shared → Prop
  | 0, s => wpAny M A (isTrue test env (eval test env)) (fun b s₂ => if b = true then False else Q .next s₂) E s
  | n + 1, s => wpAny M A (isTrue test env (eval test env)) (fun b s₂ => if b = true then wpAny M A (execs body env) (fun f s₃ => match f with
      | .ret v => Q (.ret v) s₃
      | .brk => Q .next s₃
      | _ => Unr M A E Q env test body n s₃) E s₂ else Q .next s₂) E s
theorem whileU {test : Expr} {body : List Stmt} {pos : Pos} (n : Nat) (h : Unr (model prog w) A E Q env test body n s) (hE : PassesOwn (model prog w) A env E := by passes_own) :
    wpAny (model prog w) A (exec (.While test body [] pos) env) Q E s := by
  refine wpAny_While (codeAny_whileLoop (fun k s' => Unr (model prog w) A E Q env test body k s') ?_ n h)
  rintro k s' hk
  cases k with
  | zero =>
    refine wpAny_mono hk (fun b s₂ h₂ => ?_) hE
    cases b with
    | false => simp only [Bool.false_eq_true, if_false] at h₂ ⊢; exact wpAny_execs_nil h₂
    | true => simp only [if_true] at h₂
  | succ k =>
    refine wpAny_mono hk (fun b s₂ h₂ => ?_) hE
    cases b with
    | false => simp only [Bool.false_eq_true, if_false] at h₂ ⊢; exact wpAny_execs_nil h₂
    | true =>
      simp only [if_true] at h₂ ⊢
      refine wpAny_mono h₂ (fun f s₃ h₃ => ?_) hE
      cases f with
      | next => exact ⟨k, Nat.lt_succ_self _, h₃⟩
      | cont => exact ⟨k, Nat.lt_succ_self _, h₃⟩
      | brk => exact h₃
      | ret v => exact h₃
theorem withPO {M : Model} {test : Expr} {m : Sem Value} {Q : Bool → Shared → Prop} (h : PassesOwn M A env E → wpAny M A (isTrue test env m) Q E s) (hp : PassesOwn M A env E := by passes_own) : wpAny M A (isTrue test env m) Q E s := h hp
end
end Mine
end
section
open PySem PySem.Spec PySem.Calls PyProof.Rows PySem.W
set_option maxHeartbeats 4000000
namespace Mine
inductive CutP {σ : Type} (h₀ : Heap) (L : Addr) (s : Shared) (Led : σ → List (Addr × Obj)) (ps : σ → List (Str × Value)) (Facts : σ → Prop) (stored : List Str) (m₀ : Str → Option Value) : Flow → Shared → Prop
  | mk (c : σ) (m' : Str → Option Value) (news' : List (Addr × Obj)) {s₂ : Shared} (ho : s₂.os = s.os) (hb : AllBare s₂.gens) (F : Fr h₀ L s₂.heap m') (N : News h₀ L s₂.heap news') (hi : ∀ p ∈ Led c, p ∈ news') (hf : Facts c) (h1 : ∀ p ∈ ps c, m' p.1 = some p.2)
    (h2 : ∀ z, (∀ p ∈ ps c, z ≠ p.1) → stored.contains z = false → m' z = m₀ z) : CutP h₀ L s Led ps Facts stored m₀ .next s₂
theorem cutS {prog : Program} {w : World} {A : Around} {E : Value → Shared → Prop} {Q : Flow → Shared → Prop} {s s₀ : Shared} {env : Env} {h₀ : Heap} {L : Addr} {st : Stmt} {rest : List Stmt} {σ : Type} (m₀ : Str → Option Value) (Led : σ → List (Addr × Obj)) (ps : σ → List (Str × Value)) (Facts : σ → Prop) (stored : List Str)
    (ha : wpAny (model prog w) A (exec st env) (CutP h₀ L s₀ Led ps Facts stored m₀) E s)
    (hb : ∀ (c : σ) (u : Str → Option Value) (s₁ : Shared), s₁.os = s₀.os → AllBare s₁.gens → Facts c → Fr h₀ L s₁.heap (kstB (fun z => if stored.contains z then u z else m₀ z) (ps c)) → News h₀ L s₁.heap (Led c) → wpAny (model prog w) A (execs rest env) Q E s₁) :
    wpAny (model prog w) A (execs (st :: rest) env) Q E s := by
  refine wpAny_execs_cons (wpAny_mono ha (fun f s₂ h => ?_) fun _ _ x => x)
  obtain ⟨c, m, n, ho, hbr, F, N, hi, hf, h1, h2⟩ := h
  exact hb c m s₂ ho hbr hf (ksw_fr h1 h2 F) fun p hp => N p (hi p hp)
end Mine
end
section
open PySem PySem.Spec PySem.Calls PyProof.Rows PySem.W
open PySem.Builtin PySem.Builtin.Str
set_option maxHeartbeats 4000000
namespace Mine
section
variable {prog : Program} {w : World} {A : Around} {E : Value → Shared → Prop} {s : Shared} {t u v : Tok} {Q : Value → Shared → Prop} {l : List Nat} {d : Nat} {x y z : Str}
theorem r_replace0 (hy : y = S [d]) (hd : d ∉ l) (h : Q (.str (S l) t) s) : wpAny (model prog w) A (call (.builtin "str.replace") [.str (S l) t, .str y u, .str z v]) Q E s := by
  subst hy
  have ho : ((occurrences (S l) (S [d]) 0 (S l).length ((S l).length + 1)).isEmpty || ((S [d]).length == 0 && z.length == 0)) = true := by rw [occ_nil hd]; rfl
  refine call_gives F.slot_str_replace (typeIs_str _ _ _) F.entry_str_replace (F.args_str_replace_3 _ _ _) (gives_str_replace _ _ z t u v fun e => by rw [ho] at e; cases e) ?_
  rw [if_pos ho]
  exact h
theorem r_replaceG {r : Str} (hu : u ≠ 0) (hv : v ≠ 0) (huv : u ≠ v) (hyz : (y == z) = false) (hx : x.length ≤ 4) (hz : z.length ≤ 4) (hr : Txt.replace x y z = r) (h : ∀ t' k, Q (.str r t') { s with toks := k }) :
    wpAny (model prog w) A (call (.builtin "str.replace") [.str x t, .str y u, .str z v]) Q E s :=
  SC.replaceW hu hv huv hyz (by omega) (by omega) (fun t' k => by rw [hr]; exact h t' k)
theorem r_notin0 (hy : y = S [d]) (hd : d ∉ l) (h : Q (.bool true) s) : wpAny (model prog w) A (compareOp .NotIn (.str y u) (.str (S l) t)) Q E s := by
  subst hy
  refine notIn_str ?_
  rw [occ_nil hd]; exact h
theorem r_notin1 (ho : (occurrences x y 0 x.length 1).isEmpty = false) (h : Q (.bool false) s) : wpAny (model prog w) A (compareOp .NotIn (.str y u) (.str x t)) Q E s := by
  refine notIn_str ?_
  rw [ho]; exact h
theorem execs_pos1 {M : Model} {st : Stmt} {env : Env} {Q : Flow → Shared → Prop} (hpos : 0 < s.toks) (h : ∀ tk, 0 < tk → wpAny M A (exec st env) (fun f s' => match f with | .next => wpAny M A (execs [] env) Q E s' | f => Q f s') E { s with toks := tk }) :
    wpAny M A (execs [st] env) Q E s := wpAny_execs_cons (h _ hpos)
theorem occ_same (x y : Str) (p : Nat) (hy : 1 ≤ y.length) : occurrences x y p p 1 = [] := by
  rw [StrLaws.occ_eq, show p + 1 - p = 1 by omega]
  have : ¬ (p + y.length ≤ p) := by omega
  simp [StrLaws.occBody, List.range', this]
theorem gives_find_same (x y : Str) (i : Int) (h0 : 0 ≤ i) (h1 : i ≤ x.length) (hy : 1 ≤ y.length) (t u v v' : Tok) : Gives («str.find» ⟨[.str x t, .str y u, .int i v, .int i v'], []⟩) (.int (-1)) := by
  show Gives (match occurrences x y (max 0 (if i < 0 then i + (x.length : Int) else i)).toNat (min (max 0 (if i < 0 then i + (x.length : Int) else i)).toNat x.length) 1 with | i :: _ => retInt i | [] => (do rule "str.find.not-found"; retInt (-1))) _
  rw [if_neg (by omega), show min (max 0 i).toNat x.length = (max 0 i).toNat by omega, occ_same _ _ _ hy]
  exact .rule (.of_eq rfl)
theorem r_find_same {i : Int} {v' : Tok} (h0 : 0 ≤ i) (h1 : i ≤ l.length) (hy : y = S [d]) (h : ∀ t' k, Q (.int (-1) t') { s with toks := k }) :
    wpAny (model prog w) A (call (.builtin "str.find") [.str (S l) t, .str y u, .int i v, .int i v']) Q E s := by
  subst hy
  refine call_gives F.slot_str_find (typeIs_str _ _ _) F.entry_str_find (F.args_str_find_4 _ _ _ _) (gives_find_same (S l) (S [d]) i h0 (by rw [S_len]; exact h1) (by rw [S_len]; exact Nat.le_refl 1) _ _ _ _) ?_
  exact h _ _
end
end Mine
end
section
open PySem PySem.Spec PySem.Calls PyProof.Rows PySem.W
set_option maxHeartbeats 4000000
namespace Mine
inductive Tk where
  | star
  | bare (c : Nat)
  | boxed (c : Nat)
noncomputable def stockL : List Nat := [42, 63, 46, 45, 92, 93, 91, 97]
theorem stock_ne : ∀ c ∈ stockL, c ≠ 33 := by decide
noncomputable def Tk.txt : Tk → List Nat
  | .star => [42]
  | .bare c => [c]
  | .boxed c => [91, c, 93]
noncomputable def Tk.ok : Tk → Prop
  | .star => True
  | .bare c => c ∈ bares
  | .boxed c => c ∈ stockL
noncomputable def boxL (c : Nat) : List Nat := if c = 45 ∨ c = 92 ∨ c = 91 then [91, 92, c, 93] else [91, c, 93]
noncomputable def Tk.part : Tk → Option (List Nat)
  | .star => none
  | .bare c => some (escL c)
  | .boxed c => some (boxL c)
noncomputable def flat (ts : List Tk) : List Nat := (ts.map Tk.txt).flatten
noncomputable def parts (ts : List Tk) : List (Option (List Nat)) := ts.map Tk.part
inductive PartsAre (star : Addr) : List Value → List (Option (List Nat)) → Prop
  | nil : PartsAre star [] []
  | star {vs ps} : PartsAre star vs ps → PartsAre star (vs ++ [.ref star]) (ps ++ [none])
  | text {vs ps} (l : List Nat) (t : Tok) : PartsAre star vs ps → PartsAre star (vs ++ [.str (S l) t]) (ps ++ [some l])
theorem PartsAre.length {star : Addr} {vs : List Value} {ps : List (Option (List Nat))} (h : PartsAre star vs ps) : vs.length = ps.length := by
  induction h with
  | nil => rfl
  | star _ ih => simp [ih]
  | text _ _ _ ih => simp [ih]
theorem PartsAre.last {star : Addr} {vs : List Value} {ps : List (Option (List Nat))} (h : PartsAre star vs ps) : (vs = [] ∧ ps = []) ∨ (∃ vs' ps', vs = vs' ++ [.ref star] ∧ ps = ps' ++ [none]) ∨ ∃ vs' ps' l t, vs = vs' ++ [.str (S l) t] ∧ ps = ps' ++ [some l] := by
  cases h with
  | nil => exact .inl ⟨rfl, rfl⟩
  | star h => exact .inr (.inl ⟨_, _, rfl, rfl⟩)
  | text l t h => exact .inr (.inr ⟨_, _, l, t, rfl, rfl⟩)
theorem flat_take_succ {ts : List Tk} {k : Nat} {x : Tk} (h : ts[k]? = some x) : flat (ts.take (k + 1)) = flat (ts.take k) ++ x.txt := by
  unfold flat
  rw [List.take_add_one, h]; simp
theorem parts_take_succ {ts : List Tk} {k : Nat} {x : Tk} (h : ts[k]? = some x) : parts (ts.take (k + 1)) = parts (ts.take k) ++ [x.part] := by
  unfold parts
  rw [List.take_add_one, h]; simp
theorem star_before {star : Addr} {ts : List Tk} {k : Nat} {vs : List Value} (hadj : ∀ k, ts[k]? = some .star → ts[k + 1]? ≠ some .star) (hx : ts[k]? = some .star) (hv : PartsAre star vs (parts (ts.take k))) :
    vs = [] ∨ ∃ vs' l t, vs = vs' ++ [.str (S l) t] := by
  rcases hv.last with ⟨h, _⟩ | ⟨vs', ps', h1, h2⟩ | ⟨vs', ps', l, t, h, _⟩
  · exact .inl h
  · exfalso
    cases k with
    | zero => simp [parts] at h2
    | succ k =>
      have hk := (List.getElem?_eq_some_iff.mp hx).1
      have hy : ts[k]? = some ts[k] := List.getElem?_eq_getElem (by omega)
      rw [parts_take_succ hy] at h2
      have h3 := (List.append_inj' h2 rfl).2
      have h4 : ts[k] = .star := by
        cases q : ts[k] <;> rw [q] at h3 <;> simp [Tk.part] at h3 ⊢
      rw [h4] at hy
      exact hadj k hy hx
  · exact .inr ⟨vs', l, t, h⟩
theorem flat_split {ts : List Tk} {k : Nat} {x : Tk} (h : ts[k]? = some x) : flat ts = flat (ts.take k) ++ x.txt ++ flat (ts.drop (k + 1)) := by
  obtain ⟨hk, e⟩ := List.getElem?_eq_some_iff.mp h
  have : ts = ts.take k ++ x :: ts.drop (k + 1) := by
    conv => lhs; rw [← List.take_append_drop k ts, List.drop_eq_getElem_cons hk, e]
  conv => lhs; rw [this]
  unfold flat
  simp
theorem mid_box {a r : List Nat} {c p : Nat} (hp : a.length = p) : ((a ++ [91, c, 93] ++ r).take (p + 2)).drop (p + 1) = [c] := by
  subst hp
  rw [List.append_assoc]
  simp [List.take_append, List.drop_append]
theorem txt_pos (x : Tk) : 1 ≤ x.txt.length := by cases x <;> simp [Tk.txt]
theorem flat_len : ∀ ts : List Tk, ts.length ≤ (flat ts).length
  | [] => Nat.le_refl _
  | x :: ts => by
    have h := flat_len ts
    have hx := txt_pos x
    have e : flat (x :: ts) = x.txt ++ flat ts := by simp [flat]
    rw [e, List.length_append, List.length_cons]; omega
theorem flat_all {ts : List Tk} {k : Nat} (h : (flat ts).length ≤ (flat (ts.take k)).length) : ts.take k = ts := by
  rcases Nat.lt_or_ge k ts.length with q | q
  · exfalso
    have hx : ts[k]? = some ts[k] := List.getElem?_eq_getElem q
    have h1 := congrArg List.length (flat_split hx)
    have h2 := txt_pos ts[k]
    rw [List.length_append, List.length_append] at h1
    omega
  · exact List.take_of_length_le q
inductive TripRef : List Value → Prop
  | nil : TripRef []
  | trip {a t b u c rest} : TripRef rest → TripRef (.int a t :: .int b u :: .ref c :: rest)
theorem TripRef.ok (l : List Value) (h : TripRef l) : TriplesOk l := by
  induction h with
  | nil => trivial
  | trip _ ih => exact ih
theorem TripRef.among (pos : Pos) (l : List Value) (h : TripRef l) : codeAmong pos l = none ∨ ∃ c : Addr, codeAmong pos l = some (.ref c) := by
  induction h with
  | nil => exact .inl rfl
  | @trip a t b u c rest _ ih =>
    unfold codeAmong
    split
    · exact .inr ⟨c, rfl⟩
    · exact ih
theorem TripRef.snoc (a b : Int) (c : Addr) (l : List Value) (h : TripRef l) : TripRef (l ++ [rawInt a, rawInt b, .ref c]) := by
  induction h with
  | nil => exact .trip .nil
  | trip _ ih => exact .trip ih
section
variable {M : Model} {A : Around} {E : Value → Shared → Prop} {s : Shared} {h₀ : Heap} {L a c P : Addr} {m mg mb : Str → Option Value} {cn : Str} {cs : Scope} {ccd : Value} {cl : List (Str × Addr)} {news : List (Addr × Obj)} {g : Obj → List (Addr × Obj)}
  {p : Program} {loose : List Str} {mean : ExcName → Option Value} {name qual : Str} {params : Arguments} {body : Expr} {scope : Scope} {ps : Array Value} {pos : Pos} {firstLine : Nat} {clos : List (Str × Addr)}
theorem lam_any {Q : Value → Shared → Prop} (F : Fr h₀ L s.heap m) (N : News h₀ L s.heap news) (T : Top p loose mean mg mb h₀) (C : CodeHd h₀ c P) (hcd : ccd = .ref c) (U : UpdF P (tabObj ps) news g) (ht : TripRef ps.toList)
    (hcl : closureFor scope (envX cn cs L a ccd cl) = pure clos)
    (h : ∀ f c' ctv (ps' : Array Value) h' tk, Fr h₀ L h' m → TripRef ps'.toList → News h₀ L h' ((f, kla_obj name qual params body scope clos ((mg "__name__").getD .none) c' ctv) :: g (tabObj ps')) → (∀ q ∈ news, q.1 < f) → Q (.ref f) { s with heap := h', toks := tk }) :
    wpAny M A (makeFunction name qual params (.expr body) scope (envX cn cs L a ccd cl) [] [] [] pos firstLine) Q E s := by
  rcases ht.among pos with hn | ⟨c', hc⟩
  · refine kla_nest F N T C hcd U ht.ok hn hcl fun f c' oc vs t ctv h' tk F' N' _ _ l1 l2 => ?_
    refine h f c' ctv (ps ++ #[rawInt pos.line, rawInt pos.col, .ref c']) h' tk F' ?_ (fun q hq => ?_) fun q hq => Nat.lt_trans (l1 q hq) l2
    · have := TripRef.snoc (pos.line : Nat) (pos.col : Nat) c' _ ht
      simpa using this
    · rcases List.mem_cons.mp hq with rfl | hq
      · exact N' _ (.head _)
      · exact N' q (.tail _ (.tail _ hq))
  · obtain ⟨own, rest, e1, e2, _, _⟩ := U.split
    have hm : (P, tabObj ps) ∈ news := by rw [e1]; exact List.mem_append_right _ (.head _)
    refine kla_hit F N T C hcd hm ht.ok hc hcl fun f ctv h' tk F' N' l1 => h f c' ctv ps h' tk F' ht (fun q hq => ?_) l1
    rcases List.mem_cons.mp hq with rfl | hq
    · exact N' _ (.head _)
    · rw [e2, ← e1] at hq
      exact N' q (.tail _ hq)
end
end Mine
end
section
open PySem PySem.Spec PySem.Calls PyProof.Rows PySem.W
set_option maxHeartbeats 4000000
namespace Mine
section
variable {prog : Program} {w : World} {A : Around} {E : Value → Shared → Prop} {s : Shared} {h₀ : Heap} {L a c P l : Addr} {m mg mb : Str → Option Value} {env : Env} {news : List (Addr × Obj)} {g : Obj → List (Addr × Obj)}
  {p : Program} {loose : List Str} {mean : ExcName → Option Value} {ps : Array Value}
theorem genCode_any {pos : Pos} {qualname : Str} {scope : Scope} {Q : Value → Shared → Prop} (hc : env.code = .ref c) (C : CodeHd s.heap c P) (hP : s.heap.get? P = some (tabObj ps)) (ht : TripRef ps.toList)
    (hQ : ∀ code h' tk (ps' : Array Value), Heap.ExtBut P s.heap h' → s.heap.objs.size ≤ h'.objs.size → h'.get? P = some (tabObj ps') → TripRef ps'.toList → Q code { s with heap := h', toks := tk }) :
    wpAny (model prog w) A (genexprCode env pos qualname scope) Q E s := by
  have hok := C.code hP ht.ok
  rcases ht.among pos with hn | ⟨c', hf⟩
  · refine wpAny_genexprCodeX hc hok (C.tab hP) hn fun c' h' tk hx hge hlt _ _ htb _ => ?_
    refine hQ _ _ _ (ps ++ #[rawInt pos.line, rawInt pos.col, .ref c']) hx (Nat.le_trans hge (Nat.le_of_lt hlt)) htb.2 ?_
    have := TripRef.snoc (pos.line : Nat) (pos.col : Nat) c' _ ht
    simpa using this
  · obtain ⟨o, vs, file, tf, flags, tg, inF, text, tt, op, ho, hd, h11, h2, h7, h9, h10, hop, hpd, htr, hne⟩ := id hok
    unfold genexprCode codeAt
    rw [hc, if_neg (show ¬ ((Value.ref c == Value.none) = true) from Bool.false_ne_true)]
    refine wpAny_bind (wpAny_fieldsOf ho hd ?_)
    rw [h11]
    refine wpAny_bind (wpAny_fieldsOf hop hpd ?_)
    rw [hf]
    exact wpAny_pure (hQ _ s.heap s.toks ps (Heap.ExtBut.refl _ _) (Nat.le_refl _) hP ht)
theorem gen_one {elt iter : Expr} {x : Str} {px : Pos} {scope : Scope} {cl : List (Str × Addr)} {pos : Pos} {v : Value} {n : Nat} {tx : Str} {Q : Value → Shared → Prop}
    (hit : wpAny (model prog w) A (eval iter env) (fun xv s₁ => Hold (xv = .ref l ∧ s₁ = s)) E s)
    (F : Fr h₀ L s.heap m) (N : News h₀ L s.heap news) (T : Top p loose mean mg mb h₀) (hge0 : env.globals = mainGlobals) (C : CodeHd h₀ c P) (hcd : env.code = .ref c) (U : UpdF P (tabObj ps) news g) (ht : TripRef ps.toList) (bare : AllBare s.gens)
    (hl : (l, W.listOf #[v] n) ∈ news)
    (helt : ∀ (A' : Around) E' C code bi s₂ m₂, A'.handled = none → s₂.heap.Ns (genEnv scope cl C code bi env).locals m₂ → m₂ x = some v → wpAny (model prog w) A' (eval elt (genEnv scope cl C code bi env)) (fun y s₃ => (∃ u, y = .str tx u) ∧ Keeps s₂ s₃) E' s₂)
    (h : ∀ a K s₅ (ps' : Array Value), L ≤ K → (∀ q ∈ news, q.1 ≤ K) → s₅.os = s.os → AllBare s₅.gens → Fr h₀ L s₅.heap m → News h₀ L s₅.heap (g (tabObj ps')) → TripRef ps'.toList → Gen prog w A K a 1 (fun j y => ∃ i, (passing (fun _ => true) 1 0)[j]? = some i ∧ ∃ u, y = .str tx u) s₅ → Q (.ref a) s₅)
    (hh : A.handled = none) (hroom : A.depth < recursionLimit) (hco : scope.isCoroutine = false) (hclos : closureFor scope env = pure cl) (hcell : ∀ y ∈ scope.names, y.2 ≠ .cell) (h0 : scope.names.lookup (".0" : Str) = some NameKind.local)
    (hx : scope.names.lookup x = some .local) (hkind : scope.kind = .function)
    (hs : ∀ x, genFold iter env x = pure x) :
    wpAny (model prog w) A (eval (.GeneratorExp elt [⟨.Name x px, iter, [], 0⟩] scope pos) env) Q E s := by
  have hlim : s.heap.NoLimit := (T.nolimit).keeps F.keep
  obtain ⟨own, rest, rfl, hgr, h1, h2⟩ := U.split
  have hm := N (P, tabObj ps) (List.mem_append_right _ (.head _))
  have hgs := T.g.keeps F.keep
  obtain ⟨bm, ob, b1, b2, b3, b4, b5, b6⟩ := T.bmain
  have hbP : bm ≠ P := fun q => by
    have e := F.keep _ _ b3
    rw [q, hm.1] at e; cases e; cases b4
  have hgP : mainGlobals ≠ P := fun q => by
    obtain ⟨o, es, ep, e, hd, _⟩ := hgs
    rw [q, hm.1] at e; cases e; cases hd
  have hcP : cStatics ≠ P := fun q => by
    obtain ⟨_, hns, _⟩ := hlim
    obtain ⟨o, es, ep, e, hd, _⟩ := hns
    rw [q, hm.1] at e; cases e; cases hd
  have hlp : l ≠ P := fun q => by
    have e := (N _ hl).1
    rw [q, hm.1] at e; cases e
  have hls : s.heap.IsList l #[v] := N.isList hl
  have hlt : l < s.heap.objs.size := Heap.lt_size (N _ hl).1
  refine wpAny_GeneratorExp_walksQ hh hco hclos hcell h0 hx hkind hroom (wpAny_mono hit (fun xv s₁ hq => ?_) fun _ _ e => e) hs
  obtain ⟨rfl, rfl⟩ := hq
  refine wpAny_pyIter_list hls ⟨hlim.keeps fun _ _ e => Heap.get?_push_of_some _ e, ?_⟩
  refine genCode_any (ps := ps) hcd ((C.keeps F.keep).keeps fun _ _ e => Heap.get?_push_of_some _ e) (Heap.get?_push_of_some _ hm.1) ht fun code h₃ tk₃ ps' hx₃ hsz hP' ht' => ?_
  have hx' : ∀ b o, b ≠ P → s₁.heap.get? b = some o → h₃.get? b = some o := fun b o nb e => hx₃ b o nb (Heap.get?_push_of_some _ e)
  have hsz' : s₁.heap.objs.size + 1 ≤ h₃.objs.size := by
    have e : (s₁.heap.push { cls := .type "list_iterator", data := .fields #[.ref l, .int 0 0] }).objs.size ≤ h₃.objs.size := hsz
    rw [Heap.size_push] at e; exact e
  have hl₃ : h₃.NoLimit := (hlim.keeps (fun _ _ e => Heap.get?_push_of_some _ e)).extBut hx₃ hcP
  rw [hge0]
  refine wpAny_builtinsFor (m := mg) (hgs.extBut (b := P) (h' := h₃) (fun b o nb e => hx' b o nb e) hgP) b1 b2 (hx' _ _ hbP (F.keep _ _ b3)) b4 b5 b6 ?_
  have hne : l ≠ s₁.heap.objs.size := Nat.ne_of_lt hlt
  have hPI : s₁.heap.objs.size ≠ P := fun q => Nat.lt_irrefl _ (q ▸ Heap.lt_size hm.1)
  have hLs : L < s₁.heap.objs.size := F.ns.lt
  refine ⟨s₁.heap.objs.size, [s₁.heap.objs.size, l], [s₁.heap.objs.size], 1, fun i v' => #[v][i]? = some v', _, fun _ => true, fun _ y => ∃ u, y = .str tx u, rfl, fun A' hA => Walks.list hA _ _ hne #[v], ⟨⟨_, hx₃ _ _ hPI (Heap.get?_push_size _ rfl), rfl, rfl⟩, (hls.at fun o e => hx' _ _ hlp e)⟩, ?_, hl₃, ?_, ?_, ?_⟩
  · intro b hb
    show b < h₃.objs.size
    rcases List.mem_cons.mp hb with e | hb
    · rw [e]; exact Nat.lt_of_succ_le hsz'
    · rw [List.mem_singleton.mp hb]; exact Nat.lt_of_lt_of_le hlt (Nat.le_of_succ_le hsz')
  · intro hm
    rw [List.mem_singleton] at hm
    obtain ⟨_, hns, _⟩ := hlim
    exact Nat.lt_irrefl _ (hm ▸ hns.lt)
  · intro href hk
    refine ⟨fun A' E' i v' s₂ m₂ hA hP hn hm _ => ?_, fun A' E' i v' s₂ m₂ hA hP hp hn hm _ => ?_⟩
    · exact wpAny_pure ⟨rfl, Keeps_refl _⟩
    · have e : v' = v := by
        cases i with
        | zero => simpa using hP.symm
        | succ i => simp at hP
      subst e
      exact helt A' E' _ code _ s₂ m₂ hA hn hm
  · intro a h₅ tk gs hgb hag hsz₅ hk₅ W hat
    have hag : h₃.objs.size < a := hag
    have hk₅ : ∀ b o, h₃.get? b = some o → h₅.get? b = some o := hk₅
    have hp1 : (passing (fun _ => true) 1 0) = [0] := rfl
    refine h a (s₁.heap.objs.size - 1) _ ps' (Nat.le_sub_one_of_lt hLs) (fun q hq => Nat.le_sub_one_of_lt (Heap.lt_size (N q hq).1)) rfl (bare.push hgb) ⟨?_, ?_, F.above⟩ ?_ ht' ⟨_, _, _, _, W, hat, (fun i s' st => st.1.typeIs), List.mem_cons_self, ?_, ?_⟩
    · exact (F.ns.extBut (b := P) (h' := h₃) (fun b o nb e => hx' b o nb e) hm.2.1.symm).keeps hk₅
    · exact fun b o e => hk₅ _ _ (hx' _ _ (fun q => by rw [q, hm.2.2] at e; cases e) (F.keep _ _ e))
    · intro q hq
      rw [hgr] at hq
      rcases List.mem_append.mp hq with hq | hq
      · have nn := N q (List.mem_append_left _ hq)
        exact ⟨hk₅ _ _ (hx' _ _ (h1 q hq) nn.1), nn.2⟩
      · rcases List.mem_cons.mp hq with rfl | hq
        · exact ⟨hk₅ _ _ hP', hm.2⟩
        · have nn := N q (List.mem_append_right _ (.tail _ hq))
          exact ⟨hk₅ _ _ (hx' _ _ (h2 q hq) nn.1), nn.2⟩
    · intro b hb
      show b < h₅.objs.size
      rw [hsz₅]
      have hag' : h₃.objs.size < a := hag
      rcases List.mem_cons.mp hb with rfl | hb
      · exact Nat.lt_succ_self _
      · rcases List.mem_cons.mp hb with rfl | hb
        · exact Nat.lt_succ_of_lt hag
        · exact Nat.lt_succ_of_lt (Nat.lt_trans (List.mem_range.mp hb) hag)
    · intro b hb
      show s₁.heap.objs.size - 1 < b
      rcases List.mem_cons.mp hb with rfl | hb
      · exact Nat.lt_of_le_of_lt (Nat.sub_le _ _) (Nat.lt_of_succ_le hsz')
      · rw [List.mem_singleton.mp hb]; exact Nat.sub_lt (Nat.lt_of_le_of_lt (Nat.zero_le _) hLs) Nat.one_pos
end
end Mine
end
section
open PySem PySem.Spec PySem.Calls PyProof.Rows PySem.W
set_option maxHeartbeats 40000000
namespace Mine
theorem kw8 : True := by
  (k_with "om0" => ((fail_if_success first | have := @Mine.e9s5 | fail); (repeat (with_reducible rename _ ∧ _ => h9); clear h9); omega (config := {})))
  (k_with "isom0" => ((fail_if_success first | have := @Mine.e9s5 | fail); skip))
  trivial
theorem ne_lit {c d : Nat} {l : List Nat} {y : Str} (hy : y.cps.toList = [d]) (h : c ≠ d) : ((S (c :: l)).cps.toList == y.cps.toList) = false := by
  rw [hy]; show ((c :: l) == [d]) = false; exact beq_eq_false_iff_ne.mpr fun q => h (List.cons.inj q).1
theorem kw9 : True := by
  (k_with "9subscriptTail Name Name str int" => ((fail_if_success first | have := @Mine.e9s5 | fail); with_unfolding_all (first | with_reducible refine r_item (by omega) (by assumption) (by omega) ?_ | refine r_item (by omega) (by assumption) (by omega) ?_)))
  (k_with "9compareOp Eq str str" => ((fail_if_success first | have := @Mine.e9s5 | fail); with_unfolding_all first | with_reducible refine r_eq true (by decide +kernel) ?_ | with_reducible refine r_eq false (by decide +kernel) ?_ | with_reducible refine r_eq false (ne_lit (d := 42) (by decide +kernel) (by assumption)) ?_ | with_reducible refine r_eq false (ne_lit (d := 63) (by decide +kernel) (by assumption)) ?_ | with_reducible refine r_eq false (ne_lit (d := 91) (by decide +kernel) (by assumption)) ?_ | with_reducible refine r_eq false (ne_lit (d := 33) (by decide +kernel) (by assumption)) ?_ | with_reducible refine r_eq false (ne_lit (d := 93) (by decide +kernel) (by assumption)) ?_ | refine r_eq true (by decide +kernel) ?_ | refine r_eq false (by decide +kernel) ?_ | refine r_eq false (ne_lit (d := 42) (by decide +kernel) (by assumption)) ?_ | refine r_eq false (ne_lit (d := 63) (by decide +kernel) (by assumption)) ?_ | refine r_eq false (ne_lit (d := 91) (by decide +kernel) (by assumption)) ?_ | refine r_eq false (ne_lit (d := 33) (by decide +kernel) (by assumption)) ?_ | refine r_eq false (ne_lit (d := 93) (by decide +kernel) (by assumption)) ?_))
  trivial
theorem stopS' {M : Model} {A : Around} {st : Stmt} {env : Env} {Q : Flow → Shared → Prop} {E : Value → Shared → Prop} {s : Shared} (h : Hold (wpAny M A (exec st env) Q E s)) : wpAny M A (exec st env) Q E s := h
theorem kw10 : True := by
  (k_with "9getAttr ref" => ((fail_if_success first | have := @Mine.e9s5 | fail); k_here; with_unfolding_all refine' bm_get ?k1 ?k2 ?k3 ?_; (case k1 => k_asm); (case k2 => k_asm); (case k3 => k_mem); k_whole; intro x' h' F' N' l1; try k_lt l1))
  (k_with "9exec While Compare cons nil" => ((fail_if_success first | have := @Mine.e9s5 | fail); with_unfolding_all (first | with_reducible refine stopS' ?_ | refine stopS' ?_)))
  (k_with "9callWith ref" => ((fail_if_success first | have := @Mine.e9s5 | fail); (with_reducible show wpAny _ _ (callWith _ (Value.ref xa) _ _ _) _ _ _); with_unfolding_all (first | with_reducible refine bm_with (l := lr) ?_ | refine bm_with (l := lr) ?_)))
  (k_with "9BoundAt" => ((fail_if_success first | have := @Mine.e9s5 | fail); exact bm_at (by k_asm) (by k_mem)))
  (k_with "9And" => ((fail_if_success first | have := @Mine.e9s5 | fail); (with_reducible show BoundAt _ _ _ ∧ _); refine ⟨bm_at (by k_asm) (by k_mem), ?_⟩; try dsimp only [List.nil_append, List.cons_append]))
  (k_with "9call ref" => ((fail_if_success first | have := @Mine.e9s5 | fail); (with_reducible show wpAny _ _ (call (Value.ref _) [_]) _ _ _); (with_unfolding_all refine' bm_call (l := lr) ?k1 ?k2 ?k0 ?k3 ?_ ?z; (case k1 => k_asm); (case k2 => k_asm); (case k0 => exact bm_at (by k_asm) (by k_mem)); (case k3 => k_upd); (case z => exact Nat.le_trans hvl (by rw [sizeLine_eq]; decide)); k_whole); intro h' F' N'; try k_sweep))
  (k_with "9truthy ref" => ((fail_if_success first | have := @Mine.e9s5 | fail); with_unfolding_all (first | with_reducible refine bm_truth (l := lr) (vs := vs') (by k_asm) (by k_mem) (by simp at hvl; omega) ?_ | refine bm_truth (l := lr) (vs := vs') (by k_asm) (by k_mem) (by simp at hvl; omega) ?_); intro _))
  (k_with "9subscriptTail Name UnaryOp ref int" => ((fail_if_success first | have := @Mine.e9s5 | fail); with_unfolding_all (first | with_reducible refine bm_last (l := lr) (vs := vs') (by k_asm) (by k_mem) ?_ | refine bm_last (l := lr) (vs := vs') (by k_asm) (by k_mem) ?_)))
  (k_with "9compareOp IsNot str ref" => ((fail_if_success first | have := @Mine.e9s5 | fail); refine wpAny_isNot_other (by rfl) (by intro x; cases x) ?_))
  trivial
theorem stopC' {M : Model} {A : Around} {f : Value} {as : List Value} {kw : List (Str × Value)} {Q : Value → Shared → Prop} {E : Value → Shared → Prop} {s : Shared} (h : Hold (wpAny M A (call f as kw) Q E s)) : wpAny M A (call f as kw) Q E s := h
theorem kw11 : True := by
  (k_with "9call ref" => ((fail_if_success first | have := @Mine.e9s5 | fail); (with_reducible show wpAny _ _ (call (Value.ref 82) _) _ _ _); with_unfolding_all (first | with_reducible refine stopC' ?_ | refine stopC' ?_)))
  (k_with "9exec While BoolOp cons nil" => ((fail_if_success first | have := @Mine.e9s5 | fail); with_unfolding_all refine whileU 1 ?_ hPO))
  (k_with "9exec While Constant cons nil" => ((fail_if_success first | have := @Mine.e9s5 | fail); with_unfolding_all refine whileU 1 ?_ hPO))
  (k_with "9Unr" => ((fail_if_success first | have := @Mine.e9s5 | fail); dsimp only [Unr]))
  (k_with "9subscriptTail Name Slice str ref" => ((fail_if_success first | have := @Mine.e9s5 | fail); with_unfolding_all walk_at "nm"; (first | with_reducible refine rs_ss F' N' (by omega) (by omega) (by omega) ?_ | refine rs_ss F' N' (by omega) (by omega) (by omega) ?_); intro h' t' k' F' N'; rw [hsl]))
  (k_with "9compareOp NotIn str str" => ((fail_if_success first | have := @Mine.e9s5 | fail); with_unfolding_all first | with_reducible refine r_notin0 (d := 45) (by decide +kernel) (by assumption) ?_ | with_reducible refine r_notin1 (by decide +kernel) ?_ | refine r_notin0 (d := 45) (by decide +kernel) (by assumption) ?_ | refine r_notin1 (by decide +kernel) ?_))
  (k_with "9call builtin:str.replace" => ((fail_if_success first | have := @Mine.e9s5 | fail); with_unfolding_all first | (first | with_reducible refine r_replace0 (d := 92) (by decide +kernel) (by assumption) ?_ | refine r_replace0 (d := 92) (by decide +kernel) (by assumption) ?_); try clear htkp | (first | with_reducible refine r_replaceG (by first | exact Nat.ne_of_gt (by assumption) | exact Nat.succ_ne_zero _) (Nat.succ_ne_zero _) (Nat.ne_of_lt (Nat.lt_succ_self _)) (by decide +kernel) (by decide +kernel) (by decide +kernel) hrep ?_ | refine r_replaceG (by first | exact Nat.ne_of_gt (by assumption) | exact Nat.succ_ne_zero _) (Nat.succ_ne_zero _) (Nat.ne_of_lt (Nat.lt_succ_self _)) (by decide +kernel) (by decide +kernel) (by decide +kernel) hrep ?_); intro tr' kr'; try clear htkp))
  (k_with "9getMethod ref" => ((fail_if_success first | have := @Mine.e9s5 | fail); with_unfolding_all rename Fr _ _ _ _ => F'; (first | with_reducible refine gm_sub (F'.keep _ _ h63) ?_ | refine gm_sub (F'.keep _ _ h63) ?_)))
  (k_with "9eval Lambda" => ((fail_if_success first | have := @Mine.e9s5 | fail); with_unfolding_all walk_at "nm"; refine kla_eval rfl ?_; refine' lam_any F' N' T' hC' rfl ?U hp rfl ?_; (case U => k_updF); intro fl' c' ct' ps' h' tk' F' hp' N' l1; (try dsimp only at N'); try k_lt l1))
  (k_with "9call builtin:re.Pattern.sub" => ((fail_if_success first | have := @Mine.e9s5 | fail); with_unfolding_all walk_at "nm"; (first | with_reducible refine r_sub (F'.keep _ _ h63) (F'.keep _ _ h62) (N'.get (.head _)) rfl hfl (Nat.succ_le_succ hl1) (Nat.succ_pos _) ?_ | refine r_sub (F'.keep _ _ h63) (F'.keep _ _ h62) (N'.get (.head _)) rfl hfl (Nat.succ_le_succ hl1) (Nat.succ_pos _) ?_); intro h' t' tk' k'; have F' := F'.keeps k'; have N' := backN N' k'))
  trivial
theorem truth_S {prog : Program} {w : World} {A : Around} {E : Value → Shared → Prop} {s : Shared} {c : Nat} {l : List Nat} {t : Tok} {Q : Bool → Shared → Prop} (hl : (c :: l).length ≤ 100) (h : ∀ tk, Q true { s with toks := tk }) : wpAny (model prog w) A (truthy (.str (S (c :: l)) t)) Q E s := by
  have e : (((S (c :: l)).length : Nat) : Int) ≠ 0 := by rw [S_len]; simp; omega
  refine P.truthy_str (by rw [S_len]; omega) ?_
  have := h (s.toks + 1 + 1)
  rwa [← bne_iff_ne.mpr e] at this
theorem kw12 : True := by
  (k_with "9truthy str" => ((fail_if_success first | have := @Mine.e9s5 | fail); with_unfolding_all (first | with_reducible refine truth_S (Nat.le_trans (Nat.succ_le_succ hl1) (Nat.le_of_ble_eq_true rfl)) ?_ | refine truth_S (Nat.le_trans (Nat.succ_le_succ hl1) (Nat.le_of_ble_eq_true rfl)) ?_); intro _))
  (k_with "9subscriptTail Name Constant str int" => ((fail_if_success first | have := @Mine.e9s5 | fail); with_unfolding_all (first | with_reducible refine r_item (by decide) rfl (Nat.le_trans hl2 (Nat.le_of_ble_eq_true rfl)) ?_ | refine r_item (by decide) rfl (Nat.le_trans hl2 (Nat.le_of_ble_eq_true rfl)) ?_)))
  (k_with "9truthy bool" => ((fail_if_success first | have := @Mine.e9s5 | fail); (with_reducible show wpAny _ _ (truthy (Value.bool (List.any _ _))) _ _ _); rw [hin]))
  trivial
theorem in_hat {c : Nat} (h1 : c ≠ 94) (h2 : c ≠ 91) : ([Str.ofString "^", Str.ofString "["].any fun x => x == S [c]) = false := by
  have e1 : Str.ofString "^" = S [94] := by decide +kernel
  have e2 : Str.ofString "[" = S [91] := by decide +kernel
  rw [e1, e2]
  have n1 : S [94] ≠ S [c] := fun q => h1 (by have := S_inj q; simpa using this.symm)
  have n2 : S [91] ≠ S [c] := fun q => h2 (by have := S_inj q; simpa using this.symm)
  simp [n1, n2]
theorem ne_lit2 {c d : Nat} {y : Str} (hy : y.cps.toList = [d]) (h : c ≠ d) : ((S [c]).cps.toList != y.cps.toList) = true := by
  rw [bne, ne_lit hy h]; rfl
theorem kw13 : True := by
  (k_with "9compareOp NotEq str str" => ((fail_if_success first | have := @Mine.e9s5 | fail); with_unfolding_all first | with_reducible refine r_ne true (by decide +kernel) ?_ | with_reducible refine r_ne false (by decide +kernel) ?_ | with_reducible refine r_ne true (ne_lit2 (d := 93) (by decide +kernel) (by assumption)) ?_ | refine r_ne true (by decide +kernel) ?_ | refine r_ne false (by decide +kernel) ?_ | refine r_ne true (ne_lit2 (d := 93) (by decide +kernel) (by assumption)) ?_))
  trivial
theorem box_str (l : List Nat) : Str.empty ++ Str.ofString "[" ++ S l ++ Str.ofString "]" = S (91 :: (l ++ [93])) := by
  have e1 : Str.ofString "[" = S [91] := by decide +kernel
  have e2 : Str.ofString "]" = S [93] := by decide +kernel
  rw [e1, e2, show Str.empty = S [] from rfl, S_app, S_app, S_app]; rfl
theorem r_addL {prog : Program} {w : World} {A : Around} {E : Value → Shared → Prop} {s : Shared} {x : Str} {a b : List Nat} {t u : Tok} {Q : Value → Shared → Prop} (hx : x = S a) (hn : a.length + b.length ≤ 16777216) (h : ∀ t' k, Q (.str (S (a ++ b)) t') { s with toks := k }) :
    wpAny (model prog w) A (binaryOp .Add (.str x t) (.str (S b) u)) Q E s := by subst hx; exact r_add hn h
theorem kw14 : True := by
  (k_with "9binaryOp Add str str" => ((fail_if_success first | have := @Mine.e9s5 | fail); with_unfolding_all (first | with_reducible refine r_addL (a := [92]) (by decide +kernel) (Nat.le_of_ble_eq_true rfl) ?_ | refine r_addL (a := [92]) (by decide +kernel) (Nat.le_of_ble_eq_true rfl) ?_); intro ta' ka'))
  (k_with "9execs cons Assign nil" => ((fail_if_success first | have := @Mine.e9s5 | fail); with_unfolding_all (with_reducible show wpAny _ _ (execs [Stmt.Assign [Expr.Name (Str.ofString "stuff") _] (Expr.Call (Expr.Attribute (Expr.Name (Str.ofString "stuff") _) (Str.ofString "replace") _) _ _ _) _] _) _ _ _); refine execs_pos1 (Nat.succ_pos _) ?_; intro tkp htkp))
  (k_with "9isTrue Compare" => ((fail_if_success first | have := @Mine.e9s5 | fail); (with_reducible show wpAny _ _ (PySem.isTrue (PySem.Expr.Compare _ [PySem.CmpOp.NotIn] _ _) _ _) _ _ _); refine wpAny_isTrue_Compare1 ?_))
  (k_with "9spliced" => ((fail_if_success first | have := @Mine.e9s5 | fail); (fail_if_success fail_if_success clear htkp); with_unfolding_all first | refine PyProof.Rows.args_cons ?_ | refine PyProof.Rows.args_nil ?_))
  (k_with "9call builtin:str.find" => ((fail_if_success first | have := @Mine.e9s5 | fail); with_unfolding_all (first | with_reducible refine r_find_same (d := 45) (by omega) (by omega) (by decide +kernel) ?_ | refine r_find_same (d := 45) (by omega) (by omega) (by decide +kernel) ?_); intro tf' kf'))
  trivial
theorem stopE' {M : Model} {A : Around} {e : Expr} {env : Env} {Q : Value → Shared → Prop} {E : Value → Shared → Prop} {s : Shared} (h : Hold (wpAny M A (eval e env) Q E s)) : wpAny M A (eval e env) Q E s := h
theorem kw15 : True := by
  (k_with "9call builtin:str.join" => ((fail_if_success first | have := @Mine.e9s5 | fail); with_unfolding_all (first | with_reducible refine stopC' ?_ | refine stopC' ?_)))
  (k_with "9eval Name" => ((fail_if_success first | have := @Mine.e9s5 | fail); with_unfolding_all (with_reducible show wpAny _ _ (eval (Expr.Name _ _) (genEnv _ _ _ _ _ _)) _ _ _); refine wpAny_Name (wpAny_loadName_local rfl rfl hn hmx ?_)))
  (k_with "9eval GeneratorExp" => ((fail_if_success first | have := @Mine.e9s5 | fail); with_unfolding_all (first | with_reducible refine stopE' ?_ | refine stopE' ?_)))
  trivial
structure SF (c a : Nat) (l : List Nat) : Prop where
  len : l.length ≤ 1
  fl : failsOn codeA (List.toArray (a :: l)) = true
  n33 : a ≠ 33
  nb : (c = 91 ∧ a = 91 ∧ l = []) ∨ (a ≠ 94 ∧ a ≠ 91 ∧ boxL c = 91 :: (a :: (l ++ [93])))
theorem sf_45 : SF 45 92 [45] := ⟨by decide, List.all_eq_true.mp fails2 45 (by decide), by decide, .inr ⟨by decide, by decide, by decide⟩⟩
theorem sf_92 : SF 92 92 [92] := ⟨by decide, List.all_eq_true.mp fails2 92 (by decide), by decide, .inr ⟨by decide, by decide, by decide⟩⟩
theorem sf_other {c : Nat} (hok : c ∈ stockL) (h45 : c ≠ 45) (h92 : c ≠ 92) : SF c c [] := by
  have h : c ∈ [42, 63, 46, 97, 93, 91] := (show ∀ c ∈ stockL, c ≠ 45 → c ≠ 92 → c ∈ [42, 63, 46, 97, 93, 91] by decide) c hok h45 h92
  exact ⟨Nat.zero_le _, List.all_eq_true.mp fails1 c h, (show ∀ c ∈ [42, 63, 46, 97, 93, 91], c ≠ 33 by decide) c h, (show ∀ c ∈ [42, 63, 46, 97, 93, 91], (c = 91 ∧ c = 91 ∧ ([] : List Nat) = []) ∨ (c ≠ 94 ∧ c ≠ 91 ∧ boxL c = 91 :: (c :: ([] ++ [93]))) by decide) c h⟩
structure TS where
  k : Nat
  p : Nat
  vs : List Value
  n : Nat
  t : Tok
  ps : Array Value
section
variable {w : World} {base h₀ : Heap} {outer : List Env} {L : Addr} {m : Str → Option Value} {env : Env} {news : List (Addr × Obj)}
  {hd : Option Value} {dp un : Nat} {gd : Option (List Code)} {s : Shared} {Q E : Value → Shared → Prop}
end
namespace EC_tran
noncomputable def Pk9 (w : World) (base : Heap) (h₀ : Heap) (outer : List Env) (L : Addr) (m : Str → Option Value) (env : Env) (news : List (Addr × Obj)) (dp : Nat) (un : Nat) (gd : Option (List Code)) (s : Shared) (Q : Value → Shared → Prop) (E : Value → Shared → Prop) (ts : List Tk) (pat : List Nat) (t0 : Tok) (t2 : Tok) (star : Addr) (ps : Array Value) (os : Obj) : Prop := ∀ (am : Amb w base h₀ L m env outer news s.heap) (hdp : dp < 400) (hpat : flat ts = pat) (hlen : pat.length ≤ 100) (hts : ∀ x ∈ ts, x.ok) (hadj : ∀ k, ts[k]? = some .star → ts[k + 1]? ≠ some .star) (bare : AllBare s.gens) (hC : CodeHd h₀ 88 84) (hm : (84, tabObj ps) ∈ news) (hps : TripRef ps.toList) (hs : (star, os) ∈ news) (hst : star ≠ 84) (hret : ∀ l vs n (ps' : Array Value) s', s'.os = s.os → AllBare s'.gens → (hideAll s.heap [84]).StaysIn s'.heap → s'.heap.get? 84 = some (tabObj ps') → TripRef ps'.toList → s.heap.get? l = none → s'.heap.get? l = some (W.listOf (List.toArray vs) n) → PartsAre star vs (parts ts) → Q (.ref l) s'),
    wpAny (MD w) (ar none dp un gd env outer) (call (.ref 89) [.str (S pat) t0, .ref star, .str (S [46]) t2]) Q E s
noncomputable def Pu9 (x : ((((((World) × (Heap)) × (Heap)) × (((List Env) × (Addr)) × (Str → Option Value))) × ((((Env) × (List (Addr × Obj))) × (Nat)) × ((Nat) × (Option (List Code))))) × (((((Shared) × (Value → Shared → Prop)) × (Value → Shared → Prop)) × ((List Tk) × (List Nat))) × ((((Tok) × (Tok)) × (Addr)) × ((Array Value) × (Obj)))))) : Prop := Pk9 x.1.1.1.1.1 x.1.1.1.1.2 x.1.1.1.2 x.1.1.2.1.1 x.1.1.2.1.2 x.1.1.2.2 x.1.2.1.1.1 x.1.2.1.1.2 x.1.2.1.2 x.1.2.2.1 x.1.2.2.2 x.2.1.1.1.1 x.2.1.1.1.2 x.2.1.1.2 x.2.1.2.1 x.2.1.2.2 x.2.2.1.1.1 x.2.2.1.1.2 x.2.2.1.2 x.2.2.2.1 x.2.2.2.2
noncomputable def ck9 : {x : _ // Pu9 x → ∀ y, Pu9 y} := Classical.choice (drink (by repeat (first | exact neS | exact neW | exact neA | refine ne2 ?_ ?_ | exact ⟨default⟩ | exact ⟨fun _ _ => True⟩ | exact ⟨fun _ => True⟩ | exact ⟨fun _ => default⟩ | exact ⟨fun _ _ => default⟩)))
noncomputable def w : World := ck9.1.1.1.1.1.1
noncomputable def base : Heap := ck9.1.1.1.1.1.2
noncomputable def h₀ : Heap := ck9.1.1.1.1.2
noncomputable def outer : List Env := ck9.1.1.1.2.1.1
noncomputable def L : Addr := ck9.1.1.1.2.1.2
noncomputable def m : Str → Option Value := ck9.1.1.1.2.2
noncomputable def env : Env := ck9.1.1.2.1.1.1
noncomputable def news : List (Addr × Obj) := ck9.1.1.2.1.1.2
noncomputable def dp : Nat := ck9.1.1.2.1.2
noncomputable def un : Nat := ck9.1.1.2.2.1
noncomputable def gd : Option (List Code) := ck9.1.1.2.2.2
noncomputable def s : Shared := ck9.1.2.1.1.1.1
noncomputable def Q : Value → Shared → Prop := ck9.1.2.1.1.1.2
noncomputable def E : Value → Shared → Prop := ck9.1.2.1.1.2
noncomputable def ts : List Tk := ck9.1.2.1.2.1
noncomputable def pat : List Nat := ck9.1.2.1.2.2
noncomputable def t0 : Tok := ck9.1.2.2.1.1.1
noncomputable def t2 : Tok := ck9.1.2.2.1.1.2
noncomputable def star : Addr := ck9.1.2.2.1.2
noncomputable def ps : Array Value := ck9.1.2.2.2.1
noncomputable def os : Obj := ck9.1.2.2.2.2
theorem kk9 : Pk9 w base h₀ outer L m env news dp un gd s Q E ts pat t0 t2 star ps os := by
  intro am hdp hpat hlen hts hadj bare hC hm hps hs hst hret
  have htb : ∀ p ∈ ([(84, tabObj ps), (star, os)] : List (Addr × Obj)), p ∈ news := List.forall_mem_cons.mpr ⟨hm, List.forall_mem_cons.mpr ⟨hs, List.forall_mem_nil _⟩⟩
  have mk9 : Clm := ⟨trivial⟩
  obtain ⟨⟨A₀, B⟩, F, X, N, ⟨p, loose, mean, mg, mb, T⟩, hf, hke⟩ := am
  have XX := Frag.In.keeps X (Fr.keep F)
  have hK : (fun (_ : OpenLaw) (_ : Params → Frag) => True) PySem.Challenge.rw_rx0047_01 Mine.hd0.heap_1 := by (k_fill; trivial)
  refine' wpAny_call (enter (binds := [(Str.ofString "pat", .str (S pat) t0), (Str.ofString "STAR", .ref star), (Str.ofString "QUESTION_MARK", .str (S [46]) t2)]) B F N htb (Top.nolimit T) rfl hf hke ?ho_e9 ?hd_e9 ?hcd_e9 ?hroom_e9 ?hbind_e9 ?hloc_e9 ?h_e9 ?hcell_e9 ?hco_e9 ?hgen_e9 ?hk_e9)
  (case ho_e9 => exact XX _ _ (by k_is))
  (case hd_e9 => exact rfl)
  (case hcd_e9 => exact codeRec_of XX (by k_is))
  (case hroom_e9 => exact Nat.lt_of_lt_of_le hdp (by decide))
  (case hbind_e9 => first | exact BindsTo.of_eq rfl | exact binds_K XX rfl (by k_is) rfl rfl rfl)
  (case hloc_e9 => exact locs rfl)
  (case hcell_e9 => decide)
  (case hco_e9 => exact rfl)
  (case hgen_e9 => exact rfl)
  (case hk_e9 => exact rfl)
  intro g L' h₁ tk₁ hg F' N' B' st l1
  have X' := Frag.In.keeps X st
  have T' := Top.keeps T st
  (try k_lt l1)
  (try dsimp only)
  (try k_fold)
  clear hK
  (try revert T')
  (try revert X')
  (try revert l1)
  (try revert st)
  (try revert B')
  (try revert N')
  (try revert F')
  (try revert hg)
  (try revert hK)
  (try revert XX)
  (try revert hke)
  (try revert hf)
  (try revert T)
  (try revert N)
  (try revert X)
  (try revert F)
  (try revert B)
  (repeat ((rename (_ : Prop) => z9); (fail_if_success (have : Clm := z9)); revert z9))
  revert A₀ p loose mean mg mb g L' h₁ tk₁
  (refine no_implicit_lambda% (close10 12223 ?ne_e1 (R := ?R_e1) ((?nw_e1 : ∀ A₀ p loose mean mg mb g L' h₁ tk₁, ?R_e1 A₀ p loose mean mg mb g L' h₁ tk₁) (Mine.cl 12223 ?ne_e1 (un10 ?R_e1)).1.1.1.1 (Mine.cl 12223 ?ne_e1 (un10 ?R_e1)).1.1.1.2 (Mine.cl 12223 ?ne_e1 (un10 ?R_e1)).1.1.2 (Mine.cl 12223 ?ne_e1 (un10 ?R_e1)).1.2.1 (Mine.cl 12223 ?ne_e1 (un10 ?R_e1)).1.2.2 (Mine.cl 12223 ?ne_e1 (un10 ?R_e1)).2.1.1.1 (Mine.cl 12223 ?ne_e1 (un10 ?R_e1)).2.1.1.2 (Mine.cl 12223 ?ne_e1 (un10 ?R_e1)).2.1.2 (Mine.cl 12223 ?ne_e1 (un10 ?R_e1)).2.2.1 (Mine.cl 12223 ?ne_e1 (un10 ?R_e1)).2.2.2)))
  (case ne_e1 => repeat (first | exact ⟨default⟩ | exact neS | exact neW | exact neA | refine ne2 ?_ ?_))
  intro A₀ p loose mean mg mb g L' h₁ tk₁
  (set_option tactic.hygienic false in intros)
  have mk9 : Clm := ⟨trivial⟩
  have fo9 : FoldOn := ⟨trivial⟩
  have hC' := CodeHd.keeps hC st
  have hK : (fun (_ : OpenLaw) (_ : Params → Frag) => True) PySem.Challenge.rw_rx0047_01 Mine.hd0.heap_1 := by (k_fill; trivial)
  have h63 : g.get? 63 = some reO := X' 63 _ (by k_is)
  have h62 : g.get? 62 = some codeO := (X' 62 _ (by k_is)).trans (by rw [code62])
  k_steps
  unfold Hold
  walk_at "nm"
  obtain ⟨xa, lr, x1, x2⟩ := nm3 N'
  subst x1 x2
  obtain ⟨ti, hti⟩ := tokI F' (x := Str.ofString "i") (i := 0) rfl
  refine whileS (σ := TS) (fun c => [(84, tabObj c.ps), (xa, apo lr), (lr, listOf (List.toArray c.vs) c.n), (star, os)]) (fun c => [(Str.ofString "i", .int (c.p : Nat) c.t)])
    (fun c => (flat (ts.take c.k)).length = c.p ∧ c.k ≤ ts.length ∧ PartsAre star c.vs (parts (ts.take c.k)) ∧ TripRef c.ps.toList) [Str.ofString "c", Str.ofString "j", Str.ofString "stuff", Str.ofString "chunks", Str.ofString "k", Str.ofString "chunk"] (fun c => ts.length - c.k) ⟨0, 0, [], 0, ti, ps⟩ bare F' ?n0 ?f0 ?k0 ?turn
  case k0 => exact List.forall_mem_cons.mpr ⟨hti, List.forall_mem_nil _⟩
  case n0 => exact cb_drop N' (by repeat (first | exact List.forall_mem_nil _ | refine List.forall_mem_cons.mpr ⟨by k_mem, ?_⟩))
  case f0 => exact ⟨rfl, Nat.zero_le _, .nil, hps⟩
  case turn =>
    clear F' N'
    rintro ⟨k, p0, vs, n, t, ps1⟩ u s₁ ho hb ⟨hp0, hk, hv, hp⟩ F' N'
    dsimp only at hp0 hk hv hp F' N'
    dsimp only [kstB] at F'
    refine withPO fun hPO => ?_
    generalize hR : (WhPost g L' _ _ _ _ _ _ _ _ _) = R
    iterate 2 walk1
    case' _ =>
      rename_i hlt
      have hkl : k < ts.length := by
        rcases Nat.lt_or_ge k ts.length with h | h
        · exact h
        · rw [List.take_of_length_le h, hpat] at hp0; omega
      obtain ⟨x, hx⟩ : ∃ x, ts[k]? = some x := ⟨_, List.getElem?_eq_getElem hkl⟩
      have hok := hts x (List.mem_of_getElem? hx)
      have hsp : pat = flat (ts.take k) ++ x.txt ++ flat (ts.drop (k + 1)) := by rw [← hpat]; exact flat_split hx
      have hvl : (List.toArray vs).size ≤ 100 := by
        have h1 := hv.length
        unfold parts at h1
        have h2 : ts.length ≤ (flat ts).length := flat_len ts
        rw [hpat] at h2
        simp at h1 ⊢; omega
      cases x with
      | star =>
        have hc0 : pat[((p0 : Nat) : Int).toNat]? = some 42 := by
          rw [hsp, ← hp0]
          simp [Tk.txt]
        have fin : (vs = []) ∨ ∃ vs' l t, vs = vs' ++ [.str (S l) t] := star_before hadj hx hv
        rcases fin with rfl | ⟨vs', l, tl, rfl⟩
        · k_steps
          rw [← hR]
          walk_at "nm"
          (try simp only [List.push_toArray, box_str, List.cons_append, List.nil_append] at N')
          exact ⟨⟨k + 1, p0 + 1, [] ++ [.ref star], n + 1, _, ps1⟩, _, _, ho, hb, F', N', (by kst_in), ⟨(by rw [flat_take_succ hx, List.length_append, hp0]; rfl), hkl, (by rw [parts_take_succ hx]; exact .star hv), (by assumption)⟩, List.forall_mem_cons.mpr ⟨rfl, List.forall_mem_nil _⟩, (by ksw_same), (by show ts.length - (k + 1) < ts.length - k; omega)⟩
        · k_steps
          rw [← hR]
          walk_at "nm"
          (try simp only [List.push_toArray, box_str, List.cons_append, List.nil_append] at N')
          exact ⟨⟨k + 1, p0 + 1, (vs' ++ [.str (S l) tl]) ++ [.ref star], n + 1, _, ps1⟩, _, _, ho, hb, F', N', (by kst_in), ⟨(by rw [flat_take_succ hx, List.length_append, hp0]; rfl), hkl, (by rw [parts_take_succ hx]; exact .star hv), (by assumption)⟩, List.forall_mem_cons.mpr ⟨rfl, List.forall_mem_nil _⟩, (by ksw_same), (by show ts.length - (k + 1) < ts.length - k; omega)⟩
      | bare c =>
        have hc0 : pat[((p0 : Nat) : Int).toNat]? = some c := by
          rw [hsp, ← hp0]
          simp [Tk.txt]
        have hok : c ∈ bares := hok
        have hn := bares_ne c hok
        have hn1 := hn.1
        have hn2 := hn.2.1
        have hn3 := hn.2.2
        k_steps
        unfold Hold
        walk_at "nm"
        with_unfolding_all refine' C_esc (am := ?am) (hdp := ?q1) (hc := hok) (hret := ?hr)
        case am => exact ⟨⟨_, B'⟩, F', X', N', ⟨_, _, _, _, _, T'⟩, rfl, rfl⟩
        case q1 => show dp + 1 < 500; omega
        case hr =>
          intro te he tke ke
          have F' := backF F' ke
          have N' := backN N' ke
          k_steps
          rw [← hR]
          walk_at "nm"
          (try simp only [List.push_toArray, box_str, List.cons_append, List.nil_append] at N')
          exact ⟨⟨k + 1, p0 + 1, vs ++ [.str (S (escL c)) te], n + 1, _, ps1⟩, _, _, ho, hb, F', N', (by kst_in), ⟨(by rw [flat_take_succ hx, List.length_append, hp0]; rfl), hkl, (by rw [parts_take_succ hx]; exact .text _ _ hv), (by assumption)⟩, List.forall_mem_cons.mpr ⟨rfl, List.forall_mem_nil _⟩, (by ksw_same), (by show ts.length - (k + 1) < ts.length - k; omega)⟩
      | boxed c =>
        have hpl : pat.length = p0 + 3 + (flat (ts.drop (k + 1))).length := by
          rw [hsp, ← hp0]; simp [Tk.txt]; omega
        have hc0 : pat[((p0 : Nat) : Int).toNat]? = some 91 := by
          rw [hsp, ← hp0]; simp [Tk.txt]
        have hc1 : pat[((p0 : Nat) + 1 : Int).toNat]? = some c := by
          rw [show ((p0 : Nat) + 1 : Int).toNat = p0 + 1 by omega, hsp, ← hp0]; simp [Tk.txt]
        have hc2 : pat[((p0 : Nat) + 1 + 1 : Int).toNat]? = some 93 := by
          rw [show ((p0 : Nat) + 1 + 1 : Int).toNat = p0 + 2 by omega, hsp, ← hp0]; simp [Tk.txt]
        have hsl : (pat.take ((p0 : Nat) + 1 + 1 : Int).toNat).drop ((p0 : Nat) + 1 : Int).toNat = [c] := by
          rw [show ((p0 : Nat) + 1 : Int).toNat = p0 + 1 by omega, show ((p0 : Nat) + 1 + 1 : Int).toNat = p0 + 2 by omega, hsp]
          exact mid_box hp0
        have hok : c ∈ stockL := hok
        have hn33 : c ≠ 33 := stock_ne c hok
        repeat' ((fail_if_success with_reducible show wpAny _ _ (execs (Stmt.If _ _ _ _ :: Stmt.While _ _ _ _ :: _) _) _ _ _); first | (k_unfold; (try dsimp only)) | (k_end; kc_close) | walk1 | (dsimp only; walk1) | (leave1; (try dsimp only)))
        walk_at "nm"
        refine stf F' ?_
        clear F'
        intro tkA qA mA F'
        refine cutS (σ := Int × Tok) (s₀ := s) (h₀ := g) (L := L') mA (fun _ => [(84, tabObj ps1), (xa, apo lr), (lr, listOf (List.toArray vs) n), (star, os)]) (fun j => [(Str.ofString "j", .int j.1 j.2)]) (fun j => (c = 93 ∧ j.1 = p0 + 1 + 1) ∨ (c ≠ 93 ∧ j.1 = p0 + 1)) [] ?ca1 ?cb1
        case ca1 =>
          by_cases hc93 : c = 93
          · subst hc93
            k_steps
            walk_at "nm"
            exact .mk (_, _) _ _ ho hb F' N' (by kst_in) (.inl ⟨rfl, rfl⟩) (List.forall_mem_cons.mpr ⟨rfl, List.forall_mem_nil _⟩) (by ksw_same)
          · k_steps
            walk_at "nm"
            exact .mk (_, _) _ _ ho hb F' N' (by kst_in) (.inr ⟨hc93, rfl⟩) (List.forall_mem_cons.mpr ⟨rfl, List.forall_mem_nil _⟩) (by ksw_same)
        clear F' N' ho hb
        rintro ⟨j, tj⟩ u2 s2 ho hb hj F' N'
        dsimp only at hj F' N'
        dsimp only [kstB] at F'
        refine stf F' ?_
        clear F'
        intro tkB qB mB F'
        refine cutS (σ := Tok) (s₀ := s) (h₀ := g) (L := L') mB (fun _ => [(84, tabObj ps1), (xa, apo lr), (lr, listOf (List.toArray vs) n), (star, os)]) (fun j => [(Str.ofString "j", .int (p0 + 1 + 1) j)]) (fun _ => True) [] ?ca2 ?cb2
        case ca2 =>
          rcases hj with ⟨rfl, rfl⟩ | ⟨hc93, rfl⟩
          · k_steps
            walk_at "nm"
            exact .mk _ _ _ ho hb F' N' (by kst_in) trivial (List.forall_mem_cons.mpr ⟨rfl, List.forall_mem_nil _⟩) (by ksw_same)
          · k_steps
            walk_at "nm"
            exact .mk _ _ _ ho hb F' N' (by kst_in) trivial (List.forall_mem_cons.mpr ⟨rfl, List.forall_mem_nil _⟩) (by ksw_same)
        clear F' N' ho hb hj
        rintro tj2 u3 s3 ho hb - F' N'
        (try dsimp only at F' N')
        dsimp only [kstB] at F'
        repeat' ((fail_if_success with_reducible show wpAny _ _ (execs (Stmt.If _ _ _ _ :: Stmt.Assign _ _ _ :: Stmt.Assign _ _ _ :: _) _) _ _ _); first | (k_unfold; (try dsimp only)) | (k_end; kc_close) | walk1 | (dsimp only; walk1) | (leave1; (try dsimp only)))
        with_reducible show wpAny _ _ (execs (Stmt.If _ _ _ _ :: Stmt.Assign _ _ _ :: Stmt.Assign _ _ _ :: _) _) _ _ _
        walk_at "nm"
        refine stf F' ?_
        clear F'
        intro tkC qC mC F'
        refine cutS (σ := (Nat × List Nat) × Tok × Array Value) (s₀ := s) (h₀ := g) (L := L') mC (fun q => [(84, tabObj q.2.2), (xa, apo lr), (lr, listOf (List.toArray vs) n), (star, os)]) (fun q => [(Str.ofString "stuff", .str (S (q.1.1 :: q.1.2)) q.2.1)]) (fun q => SF c q.1.1 q.1.2 ∧ TripRef q.2.2.toList) [Str.ofString "chunks", Str.ofString "k", Str.ofString "chunk"] ?ca3 ?cb3
        case ca3 =>
          by_cases h45 : c = 45
          · subst h45
            have hm92 : 92 ∉ [45] := by decide
            have hrep : Txt.replace (S [45]) (Str.ofString "-") (Str.ofString "\\-") = S [92, 45] := by decide +kernel
            k_steps
            unfold Hold
            walk_at "nm"
            with_reducible refine' gen_one (v := .str (S [45]) t') (n := 0 + 1) (tx := S [92, 45]) (c := 88) (P := 84) (ps := ps1) ?hit F' N' T' ?ge0 hC' ?cd ?U hp ?bare (List.Mem.head _) ?helt ?h ?hh ?room ?hco ?clos ?cell ?h0 ?hx ?kind ?hs
            case ge0 => exact rfl
            case cd => exact rfl
            case bare => exact hb
            case hh => exact rfl
            case hco => exact rfl
            case clos => with_unfolding_all rfl
            case h0 => exact rfl
            case hx => exact rfl
            case kind => exact rfl
            case U => k_updF
            case room => exact Nat.lt_of_lt_of_le (m := 600) (show dp + 1 < 600 by omega) (by decide)
            case cell => decide
            case hs => intro _; rfl
            case hit =>
              k_steps
              unfold Hold
              exact ⟨rfl, rfl⟩
            case helt =>
              intro A' E' C code bi s₂ m₂ hA hn hmx
              (rename FoldOn => fo8)
              clear fo8
              k_steps
              exact ⟨_, _, rfl, fun _ _ e => e⟩
            case h =>
              intro a K s₅ ps' hLK hNK ho5 hb5 F5 N5 hp5 X5
              clear F' N'
              have F' := F5
              have N' := N5
              (rename FoldOn => fo8)
              clear fo8
              k_steps
              unfold Hold
              refine join_rowsK F5 hb5 X5 hLK (fun _ => S [92, 45]) (fun j v hv => ?_) (by decide +kernel) (fun s₆ t6 F6 hb6 ho6 hk6 => ?_) (by decide +kernel)
              · obtain ⟨i, _, u, e⟩ := hv
                exact ⟨u, e⟩
              have N6 : News g L' s₆.heap [(84, tabObj ps'), (xa, apo lr), (lr, listOf (List.toArray vs) n), (star, os)] :=
                List.forall_mem_cons.mpr ⟨⟨hk6 _ _ (hNK (84, tabObj ps1) (by k_mem)) (N5 (84, tabObj ps') (by k_mem)).1, (N5 (84, tabObj ps') (by k_mem)).2⟩,
                List.forall_mem_cons.mpr ⟨⟨hk6 _ _ (hNK (xa, apo lr) (by k_mem)) (N5 (xa, apo lr) (by k_mem)).1, (N5 (xa, apo lr) (by k_mem)).2⟩,
                List.forall_mem_cons.mpr ⟨⟨hk6 _ _ (hNK (lr, listOf (List.toArray vs) n) (by k_mem)) (N5 (lr, listOf (List.toArray vs) n) (by k_mem)).1, (N5 (lr, listOf (List.toArray vs) n) (by k_mem)).2⟩,
                List.forall_mem_cons.mpr ⟨⟨hk6 _ _ (hNK (star, os) (by k_mem)) (N5 (star, os) (by k_mem)).1, (N5 (star, os) (by k_mem)).2⟩, List.forall_mem_nil _⟩⟩⟩⟩
              have ho := ho6.trans (ho5.trans ho)
              have hb := hb6
              have hp := hp5
              clear F' N' N5 F5
              have F' := F6
              have N' := N6
              have e45 : Txt.join (Str.ofString "-") ((List.range 1).map fun _ => S [92, 45]) = S [92, 45] := by decide +kernel
              rw [e45]
              have fo9 : FoldOn := ⟨trivial⟩
              k_steps
              walk_at "nm"
              exact .mk ((92, [45]), _, ps') _ _ ho hb F' N' (by kst_in) ⟨sf_45, hp⟩ (List.forall_mem_cons.mpr ⟨rfl, List.forall_mem_nil _⟩) (by ksw_same)
          by_cases h92 : c = 92
          · subst h92
            have hm45 : 45 ∉ [92] := by decide
            have hrep : Txt.replace (S [92]) (Str.ofString "\\") (Str.ofString "\\\\") = S [92, 92] := by decide +kernel
            k_steps
            walk_at "nm"
            exact .mk ((92, [92]), _, ps1) _ _ ho hb F' N' (by kst_in) ⟨sf_92, hp⟩ (List.forall_mem_cons.mpr ⟨rfl, List.forall_mem_nil _⟩) (by ksw_same)
          · have hm45 : 45 ∉ [c] := fun q => h45 (List.mem_singleton.mp q).symm
            have hm92 : 92 ∉ [c] := fun q => h92 (List.mem_singleton.mp q).symm
            k_steps
            walk_at "nm"
            exact .mk ((c, []), _, ps1) _ _ ho hb F' N' (by kst_in) ⟨sf_other hok h45 h92, hp⟩ (List.forall_mem_cons.mpr ⟨rfl, List.forall_mem_nil _⟩) (by ksw_same)
        clear F' N' ho hb hp
        rintro ⟨⟨a, l⟩, t3, ps3⟩ u4 s4 ho hb ⟨sf, hp⟩ F' N'
        dsimp only at sf hp F' N'
        dsimp only [kstB] at F'
        have hfl := sf.fl
        have hl1 := sf.len
        have hl2 : (a :: l).length ≤ 2 := Nat.succ_le_succ hl1
        have hn33 := sf.n33
        rcases sf.nb with ⟨rfl, rfl, rfl⟩ | ⟨h94, h91, hbx⟩
        · have hin : ([Str.ofString "^", Str.ofString "["].any fun x => x == S [91]) = true := by decide +kernel
          k_steps
          rw [← hR]
          walk_at "nm"
          (try simp only [List.push_toArray, box_str, List.cons_append, List.nil_append] at N')
          exact ⟨⟨k + 1, p0 + 3, vs ++ [.str (S [91, 92, 91, 93]) _], n + 1, _, ps'⟩, _, _, ho, hb, F', N', (by kst_in), ⟨(by rw [flat_take_succ hx, List.length_append, hp0]; rfl), hkl, (by rw [parts_take_succ hx]; exact (show PartsAre star _ (_ ++ [some (boxL 91)]) from .text _ _ hv)), (by assumption)⟩, List.forall_mem_cons.mpr ⟨rfl, List.forall_mem_nil _⟩, (by ksw_same), (by show ts.length - (k + 1) < ts.length - k; omega)⟩
        · have hin := in_hat (c := a) h94 h91
          repeat' ((fail_if_success with_reducible show wpAny _ _ (eval (PySem.Expr.JoinedStr _ _) _) _ _ _); first | (k_unfold; (try dsimp only)) | (k_end; kc_close) | walk1 | (dsimp only; walk1) | (leave1; (try dsimp only)))
          rcases l with _ | ⟨b, _ | ⟨_, _⟩⟩
          · k_steps
            rw [← hR]
            walk_at "nm"
            (try simp only [List.push_toArray, box_str, List.cons_append, List.nil_append] at N')
            exact ⟨⟨k + 1, p0 + 3, vs ++ [.str (S [91, a, 93]) _], n + 1, _, ps'⟩, _, _, ho, hb, F', N', (by kst_in), ⟨(by rw [flat_take_succ hx, List.length_append, hp0]; rfl), hkl, (by rw [parts_take_succ hx]; exact (show PartsAre star _ (_ ++ [some (boxL c)]) from by rw [hbx]; exact .text _ _ hv)), (by assumption)⟩, List.forall_mem_cons.mpr ⟨rfl, List.forall_mem_nil _⟩, (by ksw_same), (by show ts.length - (k + 1) < ts.length - k; omega)⟩
          · k_steps
            rw [← hR]
            walk_at "nm"
            (try simp only [List.push_toArray, box_str, List.cons_append, List.nil_append] at N')
            exact ⟨⟨k + 1, p0 + 3, vs ++ [.str (S [91, a, b, 93]) _], n + 1, _, ps'⟩, _, _, ho, hb, F', N', (by kst_in), ⟨(by rw [flat_take_succ hx, List.length_append, hp0]; rfl), hkl, (by rw [parts_take_succ hx]; exact (show PartsAre star _ (_ ++ [some (boxL c)]) from by rw [hbx]; exact .text _ _ hv)), (by assumption)⟩, List.forall_mem_cons.mpr ⟨rfl, List.forall_mem_nil _⟩, (by ksw_same), (by show ts.length - (k + 1) < ts.length - k; omega)⟩
          · exact absurd hl1 (by simp)
    have hall := flat_all (ts := ts) (k := k) (by rw [hpat, hp0]; omega)
    have hpe : (p0 : Int) = (pat.length : Int) := by rw [← hp0, hall, hpat]
    k_steps
    walk_at "nm"
    exact hret lr vs n ps1 _ ho hb (stays2 hg (List.forall_mem_cons.mpr ⟨.inl rfl, List.forall_mem_cons.mpr ⟨.inr ⟨(N _ hs).1, (N' (star, os) (by k_mem)).1⟩, List.forall_mem_nil _⟩⟩) F'.keep) (N' (84, tabObj ps1) (by k_mem)).1 hp (fresh (l := lr) hg N' (by k_mem) (by k_all)) (N' (lr, listOf (List.toArray vs) n) (by k_mem)).1 (by rw [hall] at hv; exact hv)
end EC_tran
section
variable {w : World} {base h₀ : Heap} {outer : List Env} {L : Addr} {m : Str → Option Value} {env : Env} {news : List (Addr × Obj)}
  {hd : Option Value} {dp un : Nat} {gd : Option (List Code)} {s : Shared} {Q E : Value → Shared → Prop}
theorem C_tran {ts : List Tk} {pat : List Nat} {t0 t2 : Tok} {star : Addr} {ps : Array Value} {os : Obj} (am : Amb w base h₀ L m env outer news s.heap) (hdp : dp < 400) (hpat : flat ts = pat) (hlen : pat.length ≤ 100) (hts : ∀ x ∈ ts, x.ok) (hadj : ∀ k, ts[k]? = some .star → ts[k + 1]? ≠ some .star) (bare : AllBare s.gens)
    (hC : CodeHd h₀ 88 84) (hm : (84, tabObj ps) ∈ news) (hps : TripRef ps.toList) (hs : (star, os) ∈ news) (hst : star ≠ 84)
    (hret : ∀ l vs n (ps' : Array Value) s', s'.os = s.os → AllBare s'.gens → (hideAll s.heap [84]).StaysIn s'.heap → s'.heap.get? 84 = some (tabObj ps') → TripRef ps'.toList → s.heap.get? l = none → s'.heap.get? l = some (W.listOf (List.toArray vs) n) → PartsAre star vs (parts ts) → Q (.ref l) s') :
    wpAny (MD w) (ar none dp un gd env outer) (call (.ref 89) [.str (S pat) t0, .ref star, .str (S [46]) t2]) Q E s :=
  EC_tran.ck9.2 EC_tran.kk9 (((((w, base), h₀), ((outer, L), m)), (((env, news), dp), (un, gd))), ((((s, Q), E), (ts, pat)), (((t0, t2), star), (ps, os)))) am hdp hpat hlen hts hadj bare hC hm hps hs hst hret
end
end Mine
end
theorem Mine.e9s5 : True := trivial
section
open PySem PySem.Spec PySem.Calls PyProof.Rows PySem.W
set_option maxHeartbeats 4000000
namespace Mine
theorem PartsAre.get {star : Addr} {vs : List Value} {ps : List (Option (List Nat))} (h : PartsAre star vs ps) : (∀ i : Nat, ps[i]? = some none → vs[i]? = some (.ref star)) ∧ ∀ (i : Nat) l, ps[i]? = some (some l) → ∃ t, vs[i]? = some (.str (S l) t) := by
  induction h with
  | nil => exact ⟨fun i h => by simp at h, fun i l h => by simp at h⟩
  | @star vs ps h ih =>
    have hl := h.length
    constructor
    · intro i hi
      rcases Nat.lt_or_ge i ps.length with q | q
      · rw [List.getElem?_append_left q] at hi
        rw [List.getElem?_append_left (by omega)]
        exact ih.1 i hi
      · rw [List.getElem?_append_right (by omega)]
        have : i = ps.length := by
          have := (List.getElem?_eq_some_iff.mp hi).1
          simp at this; omega
        subst this
        simp [hl]
    · intro i l hi
      rcases Nat.lt_or_ge i ps.length with q | q
      · rw [List.getElem?_append_left q] at hi
        rw [List.getElem?_append_left (by omega)]
        exact ih.2 i l hi
      · have : i = ps.length := by
          have := (List.getElem?_eq_some_iff.mp hi).1
          simp at this; omega
        subst this
        simp at hi
  | @text vs ps l' t h ih =>
    have hl := h.length
    constructor
    · intro i hi
      rcases Nat.lt_or_ge i ps.length with q | q
      · rw [List.getElem?_append_left q] at hi
        rw [List.getElem?_append_left (by omega)]
        exact ih.1 i hi
      · have : i = ps.length := by
          have := (List.getElem?_eq_some_iff.mp hi).1
          simp at this; omega
        subst this
        simp at hi
    · intro i l hi
      rcases Nat.lt_or_ge i ps.length with q | q
      · rw [List.getElem?_append_left q] at hi
        rw [List.getElem?_append_left (by omega)]
        exact ih.2 i l hi
      · have : i = ps.length := by
          have := (List.getElem?_eq_some_iff.mp hi).1
          simp at this; omega
        subst this
        simp at hi
        subst hi
        exact ⟨t, by simp [hl]⟩
noncomputable def encG (gs : List (List (List Nat))) : List (Option (List Nat)) := (gs.map fun g => g.map some ++ [none]).flatten
noncomputable def idxG (gs : List (List (List Nat))) (j : Nat) : Nat := (encG (gs.take j)).length
theorem encG_split (gs : List (List (List Nat))) (j : Nat) : encG gs = encG (gs.take j) ++ encG (gs.drop j) := by
  conv => lhs; rw [← List.take_append_drop j gs]
  unfold encG
  rw [List.map_append, List.flatten_append]
theorem idxG_succ {gs : List (List (List Nat))} {j : Nat} {g : List (List Nat)} (h : gs[j]? = some g) : idxG gs (j + 1) = idxG gs j + g.length + 1 := by
  unfold idxG encG
  rw [List.take_add_one, h]
  simp
  omega
theorem at_text {gs : List (List (List Nat))} {j : Nat} {g : List (List Nat)} (h : gs[j]? = some g) {k : Nat} {l : List Nat} (hk : g[k]? = some l) : (none :: encG gs)[1 + idxG gs j + k]? = some (some l) := by
  have hd : gs.drop j = g :: gs.drop (j + 1) := by
    obtain ⟨hlt, e⟩ := List.getElem?_eq_some_iff.mp h
    rw [List.drop_eq_getElem_cons hlt, e]
  rw [show 1 + idxG gs j + k = idxG gs j + k + 1 from (Nat.add_assoc 1 _ _).trans (Nat.add_comm 1 _), List.getElem?_cons_succ, encG_split gs j, hd]
  rw [List.getElem?_append_right (by unfold idxG; exact Nat.le_add_right _ _)]
  have hlt := (List.getElem?_eq_some_iff.mp hk).1
  have e : encG (g :: gs.drop (j + 1)) = (g.map some ++ [none]) ++ encG (gs.drop (j + 1)) := by simp [encG]
  rw [e, show idxG gs j + k - (encG (gs.take j)).length = k by unfold idxG; exact Nat.add_sub_cancel_left .., List.append_assoc, List.getElem?_append_left (by simpa using hlt)]
  simp [hk]
theorem at_star {gs : List (List (List Nat))} {j : Nat} {g : List (List Nat)} (h : gs[j]? = some g) : (none :: encG gs)[1 + idxG gs j + g.length]? = some none := by
  have hd : gs.drop j = g :: gs.drop (j + 1) := by
    obtain ⟨hlt, e⟩ := List.getElem?_eq_some_iff.mp h
    rw [List.drop_eq_getElem_cons hlt, e]
  rw [show 1 + idxG gs j + g.length = idxG gs j + g.length + 1 from (Nat.add_assoc 1 _ _).trans (Nat.add_comm 1 _), List.getElem?_cons_succ, encG_split gs j, hd]
  rw [List.getElem?_append_right (by unfold idxG; exact Nat.le_add_right _ _)]
  have e : encG (g :: gs.drop (j + 1)) = (g.map some ++ [none]) ++ encG (gs.drop (j + 1)) := by simp [encG]
  rw [e, show idxG gs j + g.length - (encG (gs.take j)).length = g.length by unfold idxG; exact Nat.add_sub_cancel_left .., List.append_assoc, List.getElem?_append_right (by simp)]
  simp
theorem idxG_all (gs : List (List (List Nat))) : idxG gs gs.length = (encG gs).length := by
  unfold idxG; rw [List.take_length]
theorem idxG_lt {gs : List (List (List Nat))} {j : Nat} (h : j ≤ gs.length) : idxG gs j ≤ (encG gs).length := by
  rw [encG_split gs j, List.length_append]; unfold idxG; omega
section
variable {prog : Program} {w : World} {A : Around} {E : Value → Shared → Prop} {s : Shared} {h₀ : Heap} {L l : Addr} {news : List (Addr × Obj)} {u : Tok}
theorem bm_item {value slice : Expr} {vs : List Value} {n : Nat} {k : Int} {v : Value} {Q : Value → Shared → Prop} (N : News h₀ L s.heap news) (hm : (l, listOf (List.toArray vs) n) ∈ news)
    (h0 : 0 ≤ k) (hhi : k < 2 ^ 63) (hx : vs[k.toNat]? = some v) (h : Q v s)
    (hs : subscripted slice false (.ref l) (.int k u) = operate [.ref l, .int k u] (getItem (.ref l) (.int k u)) := by with_unfolding_all rfl) (hg : ∀ r, letTemporaryGo value (.ref l) r = pure () := by intro _; with_unfolding_all rfl) :
    wpAny (model prog w) A (subscriptTail value slice (.ref l) (.int k u)) Q E s :=
  subscriptTail_builtin (N.isList hm).typeIs slot_list_getitem.lookup (wpAny_getItem_list (N.isList hm) h0 hhi (by simpa using hx) h) hs hg
theorem bm_len {vs : List Value} {n : Nat} {Q : Value → Shared → Prop} (N : News h₀ L s.heap news) (hm : (l, listOf (List.toArray vs) n) ∈ news) (hv : vs.length ≤ 1000) (h : ∀ t k, Q (.int (vs.length : Nat) t) { s with toks := k }) :
    wpAny (model prog w) A (call (.builtin "len") [.ref l]) Q E s := by
  refine len_list (N.isList hm) (by simp; omega) ?_
  have := h (s.toks + 1) (s.toks + 1 + 1)
  simpa using this
theorem star_at {gs : List (List (List Nat))} {j : Nat} (h : j ≤ gs.length) : (none :: encG gs)[idxG gs j]? = some none := by
  cases j with
  | zero => rfl
  | succ j =>
    have hx : gs[j]? = some gs[j] := List.getElem?_eq_getElem h
    rw [idxG_succ hx, show idxG gs j + gs[j].length + 1 = 1 + idxG gs j + gs[j].length by omega]
    exact at_star hx
end
theorem edot : Str.ofString ".*" = S [46, 42] := by decide +kernel
theorem encG_len : ∀ gs : List (List (List Nat)), gs.length ≤ (encG gs).length
  | [] => Nat.le_refl _
  | g :: gs => by
    have h := encG_len gs
    have e : encG (g :: gs) = (g.map some ++ [none]) ++ encG gs := by simp [encG]
    rw [e, List.length_append, List.length_append, List.length_cons]
    simp; omega
theorem strs_snoc {vs : List Value} {ts : List Str} (h : StrsAre vs ts) (x : Str) (t : Tok) : StrsAre (vs ++ [.str x t]) (ts ++ [x]) := by
  induction h with
  | nil => exact .cons _ _ .nil
  | cons m u h ih => exact .cons _ _ ih
theorem grp_str (l : List Nat) : Str.empty ++ Str.ofString "(?>.*?" ++ S l ++ Str.ofString ")" = S ([40, 63, 62, 46, 42, 63] ++ l ++ [41]) := by
  have e1 : Str.ofString "(?>.*?" = S [40, 63, 62, 46, 42, 63] := by decide +kernel
  have e2 : Str.ofString ")" = S [41] := by decide +kernel
  rw [e1, e2, show Str.empty = S [] from rfl, S_app, S_app, S_app]; rfl
theorem re_str (l : List Nat) : Str.empty ++ Str.ofString "(?s:" ++ S l ++ Str.ofString ")\\Z" = S ([40, 63, 115, 58] ++ l ++ [41, 92, 90]) := by
  have e1 : Str.ofString "(?s:" = S [40, 63, 115, 58] := by decide +kernel
  have e2 : Str.ofString ")\\Z" = S [41, 92, 90] := by decide +kernel
  rw [e1, e2, show Str.empty = S [] from rfl, S_app, S_app, S_app]; rfl
end Mine
end
section
open PySem PySem.Spec PySem.Calls PyProof.Rows PySem.W
set_option maxHeartbeats 4000000
namespace Mine
theorem kw16 : True := by
  (k_with "size_fits" => ((fail_if_success first | have := @Mine.e9s6 | fail); rw [List.size_toArray]; refine Nat.le_trans (Nat.le_of_eq (PyProof.Rows.StrsAre.length (by assumption))) ?_; rw [List.length_map]; first | refine Nat.le_trans (List.length_take_le _ _) ?_; omega | size_fits))
  trivial
theorem lit8 : (Str.ofString "(?>.*?").length = 6 := by decide +kernel
theorem lit9 : (Str.ofString "(?s:").length = 4 := by decide +kernel
theorem lit10 : (Str.ofString ")\\Z").length = 3 := by decide +kernel
theorem lit11 : (Str.ofString ".*").length = 2 := by decide +kernel
theorem kw17 : True := by
  (k_with "9my le" => ((fail_if_success first | have := @Mine.e9s6 | fail); simp only [Str.length_append, S_len, lit0, lit2, lit8, lit9, lit10, lit11, sizeLine_eq]; omega))
  trivial
theorem stopS3 {M : Model} {A : Around} {st : Stmt} {env : Env} {Q : Flow → Shared → Prop} {E : Value → Shared → Prop} {s : Shared} (h : Hold (wpAny M A (exec st env) Q E s)) : wpAny M A (exec st env) Q E s := h
theorem stopC3 {M : Model} {A : Around} {f : Value} {as : List Value} {kw : List (Str × Value)} {Q : Value → Shared → Prop} {E : Value → Shared → Prop} {s : Shared} (h : Hold (wpAny M A (call f as kw) Q E s)) : wpAny M A (call f as kw) Q E s := h
theorem kw18 : True := by
  (k_with "9getAttr ref" => ((fail_if_success first | have := @Mine.e9s6 | fail); k_here; with_unfolding_all refine' bm_get ?k1 ?k2 ?k3 ?_; (case k1 => k_asm); (case k2 => k_asm); (case k3 => k_mem); k_whole; intro x' h' F' N' l1; try k_lt l1))
  (k_with "9exec While" => ((fail_if_success first | have := @Mine.e9s6 | fail); with_unfolding_all (first | with_reducible refine stopS3 ?_ | refine stopS3 ?_)))
  (k_with "9call builtin:str.join" => ((fail_if_success first | have := @Mine.e9s6 | fail); with_unfolding_all (first | with_reducible refine stopC3 ?_ | refine stopC3 ?_)))
  (k_with "9callWith ref" => ((fail_if_success first | have := @Mine.e9s6 | fail); (with_reducible show wpAny _ _ (callWith _ (Value.ref xa) _ _ _) _ _ _); with_unfolding_all (first | with_reducible refine bm_with (l := lr) ?_ | refine bm_with (l := lr) ?_)))
  (k_with "9BoundAt" => ((fail_if_success first | have := @Mine.e9s6 | fail); exact bm_at (by k_asm) (by k_mem)))
  (k_with "9And" => ((fail_if_success first | have := @Mine.e9s6 | fail); (with_reducible show BoundAt _ _ _ ∧ _); refine ⟨bm_at (by k_asm) (by k_mem), ?_⟩; try dsimp only [List.nil_append, List.cons_append]))
  (k_with "9call ref" => ((fail_if_success first | have := @Mine.e9s6 | fail); (with_reducible show wpAny _ _ (call (Value.ref _) [_]) _ _ _); (with_unfolding_all refine' bm_call (l := lr) ?k1 ?k2 ?k0 ?k3 ?_ ?z; (case k1 => k_asm); (case k2 => k_asm); (case k0 => exact bm_at (by k_asm) (by k_mem)); (case k3 => k_upd); (case z => exact Nat.le_trans hrl (by rw [sizeLine_eq]; decide)); k_whole); intro h' F' N'; try k_sweep))
  (k_with "9compareOp IsNot str ref" => ((fail_if_success first | have := @Mine.e9s6 | fail); refine wpAny_isNot_other (by rfl) (by intro x; cases x) ?_))
  (k_with "9compareOp IsNot ref ref" => ((fail_if_success first | have := @Mine.e9s6 | fail); with_unfolding_all refine wpAny_isNot_ref_self ?_))
  (k_with "9compareOp Is ref ref" => ((fail_if_success first | have := @Mine.e9s6 | fail); with_unfolding_all refine wpAny_is_ref_self ?_))
  (k_with "9subscriptTail Name Name ref int" => ((fail_if_success first | have := @Mine.e9s6 | fail); with_unfolding_all (first | with_reducible refine bm_item (l := inp) (vs := vs) (by k_asm) (by k_mem) (by omega) (by omega) (by assumption) ?_ | refine bm_item (l := inp) (vs := vs) (by k_asm) (by k_mem) (by omega) (by omega) (by assumption) ?_)))
  (k_with "9Unr" => ((fail_if_success first | have := @Mine.e9s6 | fail); dsimp only [Unr]))
  (k_with "9call builtin:len" => ((fail_if_success first | have := @Mine.e9s6 | fail); with_unfolding_all (first | with_reducible refine bm_len (l := inp) (vs := vs) (by k_asm) (by k_mem) (by omega) ?_ | refine bm_len (l := inp) (vs := vs) (by k_asm) (by k_mem) (by omega) ?_); intro _ _))
  trivial
noncomputable def outL (g : List (List Nat)) : List Nat := [40, 63, 62, 46, 42, 63] ++ g.flatten ++ [41]
theorem out_len : ∀ (gs : List (List (List Nat))) {g : List (List Nat)}, g ∈ gs → g.flatten.length ≤ ((gs.map outL).flatten).length
  | a :: gs, g, h => by
    rw [List.map_cons, List.flatten_cons, List.length_append]
    rcases List.mem_cons.mp h with rfl | h
    · unfold outL; simp; omega
    · have := out_len gs h; omega
noncomputable def reL (gs : List (List (List Nat))) : List Nat := [40, 63, 115, 58] ++ ((gs.map outL).flatten ++ [46, 42]) ++ [41, 92, 90]
structure JS where
  j : Nat
  rs : List Value
  n : Nat
  t : Tok
structure IS where
  k : Nat
  fs : List Value
  n : Nat
  t : Tok
section
variable {w : World} {base h₀ : Heap} {outer : List Env} {L : Addr} {m : Str → Option Value} {env : Env} {news : List (Addr × Obj)}
  {hd : Option Value} {dp un : Nat} {gd : Option (List Code)} {s : Shared} {Q E : Value → Shared → Prop}
theorem C_join {gs : List (List (List Nat))} {vs : List Value} {nv : Nat} {star inp : Addr} {os : Obj} (am : Amb w base h₀ L m env outer news s.heap) (hdp : dp < 400) (hv : PartsAre star vs (none :: encG gs)) (hne : ∀ g ∈ gs, g ≠ []) (hlen : (encG gs).length ≤ 100) (hfl : ((gs.map outL).flatten).length ≤ 200) (bare : AllBare s.gens)
    (hi : (inp, W.listOf (List.toArray vs) nv) ∈ news) (hs : (star, os) ∈ news)
    (hret : ∀ t s', s'.os = s.os → AllBare s'.gens → s.heap.StaysIn s'.heap → Q (.str (S (reL gs)) t) s') :
    wpAny (MD w) (ar none dp un gd env outer) (call (.ref 96) [.ref inp, .ref star]) Q E s := by
  (try revert hret)
  (try revert hs)
  (try revert hi)
  (try revert bare)
  (try revert hfl)
  (try revert hlen)
  (try revert hne)
  (try revert hv)
  (try revert hdp)
  (try revert am)
  (repeat ((rename (_ : Prop) => z9); (fail_if_success (have : Clm := z9)); revert z9))
  revert w base h₀ outer L m env news dp un gd s Q E gs vs nv star inp os
  (refine no_implicit_lambda% (close20 64900 ?ne_z1 (R := ?R_z1) ((?nw_z1 : ∀ w base h₀ outer L m env news dp un gd s Q E gs vs nv star inp os, ?R_z1 w base h₀ outer L m env news dp un gd s Q E gs vs nv star inp os) (Mine.cl 64900 ?ne_z1 (un20 ?R_z1)).1.1.1.1.1 (Mine.cl 64900 ?ne_z1 (un20 ?R_z1)).1.1.1.1.2 (Mine.cl 64900 ?ne_z1 (un20 ?R_z1)).1.1.1.2 (Mine.cl 64900 ?ne_z1 (un20 ?R_z1)).1.1.2.1 (Mine.cl 64900 ?ne_z1 (un20 ?R_z1)).1.1.2.2 (Mine.cl 64900 ?ne_z1 (un20 ?R_z1)).1.2.1.1.1 (Mine.cl 64900 ?ne_z1 (un20 ?R_z1)).1.2.1.1.2 (Mine.cl 64900 ?ne_z1 (un20 ?R_z1)).1.2.1.2 (Mine.cl 64900 ?ne_z1 (un20 ?R_z1)).1.2.2.1 (Mine.cl 64900 ?ne_z1 (un20 ?R_z1)).1.2.2.2 (Mine.cl 64900 ?ne_z1 (un20 ?R_z1)).2.1.1.1.1 (Mine.cl 64900 ?ne_z1 (un20 ?R_z1)).2.1.1.1.2 (Mine.cl 64900 ?ne_z1 (un20 ?R_z1)).2.1.1.2 (Mine.cl 64900 ?ne_z1 (un20 ?R_z1)).2.1.2.1 (Mine.cl 64900 ?ne_z1 (un20 ?R_z1)).2.1.2.2 (Mine.cl 64900 ?ne_z1 (un20 ?R_z1)).2.2.1.1.1 (Mine.cl 64900 ?ne_z1 (un20 ?R_z1)).2.2.1.1.2 (Mine.cl 64900 ?ne_z1 (un20 ?R_z1)).2.2.1.2 (Mine.cl 64900 ?ne_z1 (un20 ?R_z1)).2.2.2.1 (Mine.cl 64900 ?ne_z1 (un20 ?R_z1)).2.2.2.2)))
  (case ne_z1 => repeat (first | exact ⟨default⟩ | exact neS | exact neW | exact neA | refine ne2 ?_ ?_))
  intro w base h₀ outer L m env news dp un gd s Q E gs vs nv star inp os
  (set_option tactic.hygienic false in intros)
  have mk9 : Clm := ⟨trivial⟩
  have htb : ∀ p ∈ ([(inp, W.listOf (List.toArray vs) nv), (star, os)] : List (Addr × Obj)), p ∈ news := List.forall_mem_cons.mpr ⟨hi, List.forall_mem_cons.mpr ⟨hs, List.forall_mem_nil _⟩⟩
  have mk9 : Clm := ⟨trivial⟩
  obtain ⟨⟨A₀, B⟩, F, X, N, ⟨p, loose, mean, mg, mb, T⟩, hf, hke⟩ := am
  have XX := Frag.In.keeps X (Fr.keep F)
  have hK : (fun (_ : OpenLaw) (_ : Params → Frag) => True) PySem.Challenge.rw_rx0047_01 Mine.hd0.heap_1 := by (k_fill; trivial)
  refine' wpAny_call (enter (binds := [(Str.ofString "inp", .ref inp), (Str.ofString "STAR", .ref star)]) B F N htb (Top.nolimit T) rfl hf hke ?ho_e10 ?hd_e10 ?hcd_e10 ?hroom_e10 ?hbind_e10 ?hloc_e10 ?h_e10 ?hcell_e10 ?hco_e10 ?hgen_e10 ?hk_e10)
  (case ho_e10 => exact XX _ _ (by k_is))
  (case hd_e10 => exact rfl)
  (case hcd_e10 => exact codeRec_of XX (by k_is))
  (case hroom_e10 => exact Nat.lt_of_lt_of_le hdp (by decide))
  (case hbind_e10 => first | exact BindsTo.of_eq rfl | exact binds_K XX rfl (by k_is) rfl rfl rfl)
  (case hloc_e10 => exact locs rfl)
  (case hcell_e10 => decide)
  (case hco_e10 => exact rfl)
  (case hgen_e10 => exact rfl)
  (case hk_e10 => exact rfl)
  intro g L' h₁ tk₁ hg F' N' B' st l1
  have X' := Frag.In.keeps X st
  have T' := Top.keeps T st
  (try k_lt l1)
  (try dsimp only)
  (try k_fold)
  clear hK
  (try revert T')
  (try revert X')
  (try revert l1)
  (try revert st)
  (try revert B')
  (try revert N')
  (try revert F')
  (try revert hg)
  (try revert hK)
  (try revert XX)
  (try revert hke)
  (try revert hf)
  (try revert T)
  (try revert N)
  (try revert X)
  (try revert F)
  (try revert B)
  (repeat ((rename (_ : Prop) => z9); (fail_if_success (have : Clm := z9)); revert z9))
  revert A₀ p loose mean mg mb g L' h₁ tk₁
  (refine no_implicit_lambda% (close10 12223 ?ne_e1 (R := ?R_e1) ((?nw_e1 : ∀ A₀ p loose mean mg mb g L' h₁ tk₁, ?R_e1 A₀ p loose mean mg mb g L' h₁ tk₁) (Mine.cl 12223 ?ne_e1 (un10 ?R_e1)).1.1.1.1 (Mine.cl 12223 ?ne_e1 (un10 ?R_e1)).1.1.1.2 (Mine.cl 12223 ?ne_e1 (un10 ?R_e1)).1.1.2 (Mine.cl 12223 ?ne_e1 (un10 ?R_e1)).1.2.1 (Mine.cl 12223 ?ne_e1 (un10 ?R_e1)).1.2.2 (Mine.cl 12223 ?ne_e1 (un10 ?R_e1)).2.1.1.1 (Mine.cl 12223 ?ne_e1 (un10 ?R_e1)).2.1.1.2 (Mine.cl 12223 ?ne_e1 (un10 ?R_e1)).2.1.2 (Mine.cl 12223 ?ne_e1 (un10 ?R_e1)).2.2.1 (Mine.cl 12223 ?ne_e1 (un10 ?R_e1)).2.2.2)))
  (case ne_e1 => repeat (first | exact ⟨default⟩ | exact neS | exact neW | exact neA | refine ne2 ?_ ?_))
  intro A₀ p loose mean mg mb g L' h₁ tk₁
  (set_option tactic.hygienic false in intros)
  have mk9 : Clm := ⟨trivial⟩
  have fo9 : FoldOn := ⟨trivial⟩
  have hvn : vs.length = 1 + (encG gs).length := by rw [hv.length]; simp; omega
  have hv101 : vs.length ≤ 101 := by omega
  k_steps
  unfold Hold
  walk_at "nm"
  obtain ⟨xa, lr, x1, x2⟩ := nm3 N'
  subst x1 x2
  have hx0 : vs[((0 : Int)).toNat]? = some (.ref star) := hv.get.1 0 rfl
  refine whileU 0 ?_
  k_steps
  unfold Hold
  walk_at "nm"
  obtain ⟨ti, hti⟩ := tokI F' (x := Str.ofString "i") (i := 0) rfl
  refine whileS (σ := JS) (fun c => [(xa, apo lr), (lr, listOf (List.toArray c.rs) c.n), (inp, W.listOf (List.toArray vs) nv), (star, os)]) (fun c => [(Str.ofString "i", .int (idxG gs c.j : Nat) c.t)])
    (fun c => c.j ≤ gs.length ∧ StrsAre c.rs ((gs.take c.j).map fun g => S (outL g))) [Str.ofString "fixed"] (fun c => gs.length - c.j) ⟨0, [], 0, ti⟩ bare F' ?n0 ?f0 ?k0 ?turn
  case k0 => exact List.forall_mem_cons.mpr ⟨hti, List.forall_mem_nil _⟩
  case n0 => exact cb_drop N' (by repeat (first | exact List.forall_mem_nil _ | refine List.forall_mem_cons.mpr ⟨by k_mem, ?_⟩))
  case f0 => exact ⟨Nat.zero_le _, .nil⟩
  case turn =>
    clear F' N'
    rintro ⟨j, rs, n, t⟩ u s₁ ho hb ⟨hj, hrs⟩ F' N'
    dsimp only at hj hrs F' N'
    dsimp only [kstB] at F'
    refine withPO fun hPO => ?_
    generalize hR : (WhPost g L' _ _ _ _ _ _ _ _ _) = R
    have hil := idxG_lt hj
    have hi0 : idxG gs j < vs.length := by omega
    have hx1 : vs[((idxG gs j : Nat) : Int).toNat]? = some (.ref star) := hv.get.1 _ (star_at hj)
    have hrl : (List.toArray rs).size ≤ 100 := by
      have h1 := encG_len gs
      have h2 := hrs.length
      simp at h2 ⊢; omega
    rcases Nat.eq_or_lt_of_le hj with hjj | hjj
    · subst hjj
      have hie := idxG_all gs
      k_steps
      (try change R _ _)
      rw [← hR]
      dsimp only [WhPost]
      k_steps
      unfold Hold
      walk_at "nm"
      have hsj := fun t => strs_snoc hrs (S [46, 42]) t
      have ejs : (gs.take gs.length).map (fun g => S (outL g)) ++ [S [46, 42]] = (gs.map outL ++ [[46, 42]]).map S := by
        rw [List.take_length, List.map_append, List.map_map]; rfl
      rw [ejs] at hsj
      have hjl : (gs.map outL ++ [[46, 42]]).flatten.length ≤ 202 := by
        rw [List.flatten_append, List.length_append]; simpa using hfl
      have hgl : gs.length ≤ (encG gs).length := encG_len gs
      refine r_join (ls := gs.map outL ++ [[46, 42]]) (by decide +kernel) (N'.isList (a := lr) (by k_mem)) (by have := hsj; simpa [edot] using this _) (by simp at hjl ⊢; omega) fun t' k => ?_
      k_steps
      walk_at "nm"
      have hsA := stays hg N htb F' N' (by repeat (first | exact List.forall_mem_nil _ | refine List.forall_mem_cons.mpr ⟨by k_mem, ?_⟩))
      have efl : (gs.map outL ++ [[46, 42]]).flatten = (gs.map outL).flatten ++ [46, 42] := by simp
      (try dsimp only)
      rw [re_str, efl]
      exact hret _ _ ho hb hsA
    · obtain ⟨g1, hg1⟩ : ∃ g1, gs[j]? = some g1 := ⟨gs[j], List.getElem?_eq_getElem hjj⟩
      have hgn : g1.length ≠ 0 := fun q => hne g1 (List.mem_of_getElem? hg1) (List.length_eq_zero_iff.mp q)
      have hsu := idxG_succ hg1
      have hil2 := idxG_lt (gs := gs) (j := j + 1) hjj
      have hi1 : idxG gs j + 1 + g1.length < vs.length := by omega
      have hxt : ∀ k, k < g1.length → ∃ l t, g1[k]? = some l ∧ vs[(((idxG gs j + 1 + k : Nat) : Int)).toNat]? = some (.str (S l) t) := by
        intro k hk
        obtain ⟨t, ht⟩ := hv.get.2 _ _ (at_text hg1 (List.getElem?_eq_getElem hk))
        exact ⟨_, t, List.getElem?_eq_getElem hk, by rw [← ht]; congr 1; omega⟩
      have hxs : vs[(((idxG gs j + 1 + g1.length : Nat) : Int)).toNat]? = some (.ref star) := by
        rw [← hv.get.1 _ (at_star hg1)]; congr 1; omega
      have hsu2 : idxG gs (j + 1) = idxG gs j + 1 + g1.length := by omega
      have hgf : g1.flatten.length + g1.length ≤ 400 := by
        have h1 := out_len gs (List.mem_of_getElem? hg1)
        omega
      obtain ⟨l0, t0, hl0, hx2⟩ := hxt 0 (by omega)
      have hx2 : vs[((idxG gs j : Nat) + 1 : Int).toNat]? = some (.str (S l0) t0) := hx2
      k_steps
      unfold Hold
      walk_at "nm"
      obtain ⟨lf, x3⟩ := nm1 N'
      subst x3
      obtain ⟨tkA, htA⟩ := tokI F' (x := Str.ofString "i") (i := ((idxG gs j + 1 : Nat) : Int)) rfl
      refine whileS (σ := IS) (fun c => [(lf, listOf (List.toArray c.fs) c.n), (xa, apo lr), (lr, listOf (List.toArray rs) n), (inp, W.listOf (List.toArray vs) nv), (star, os)]) (fun c => [(Str.ofString "i", .int (idxG gs j + 1 + c.k : Nat) c.t)])
        (fun c => c.k ≤ g1.length ∧ StrsAre c.fs ((g1.take c.k).map S)) [] (fun c => g1.length - c.k) ⟨0, [], 0, tkA⟩ hb F' ?n1 ?f1 ?k1 ?turn1 hPO
      case k1 => exact List.forall_mem_cons.mpr ⟨htA, List.forall_mem_nil _⟩
      case n1 => exact cb_drop N' (by repeat (first | exact List.forall_mem_nil _ | refine List.forall_mem_cons.mpr ⟨by k_mem, ?_⟩))
      case f1 => exact ⟨Nat.zero_le _, .nil⟩
      case turn1 =>
        clear F' N'
        rintro ⟨k, fs, n2, t2⟩ u2 s₂ ho2 hb2 ⟨hk2, hfs⟩ F' N'
        dsimp only at hk2 hfs F' N'
        dsimp only [kstB] at F'
        have ho := ho2.trans ho
        have hb := hb2
        rcases Nat.eq_or_lt_of_le hk2 with hkk | hkk
        · subst hkk
          k_steps
          unfold Hold
          walk_at "nm"
          refine r_join (ls := g1) (by decide +kernel) (N'.isList (a := lf) (by k_mem)) (by simpa using hfs) (by omega) fun t' k => ?_
          k_steps
          rw [← hR]
          walk_at "nm"
          (try simp only [List.push_toArray, grp_str] at N')
          exact ⟨⟨j + 1, rs ++ [.str (S (outL g1)) _], n + 1, _⟩, _, _, ho, hb, F', N', (by kst_in), ⟨hjj, (by rw [List.take_add_one, hg1]; simpa using strs_snoc hrs (S (outL g1)) _)⟩, List.forall_mem_cons.mpr ⟨(by rw [hsu2]; rfl), List.forall_mem_nil _⟩, (by ksw_same), (by show gs.length - (j + 1) < gs.length - j; omega)⟩
        · obtain ⟨l1', t1', hl1, hx3⟩ := hxt k hkk
          generalize hR1 : (WhPost g L' _ _ _ _ _ _ _ _ _) = R1
          k_steps
          rw [← hR1]
          walk_at "nm"
          (try simp only [List.push_toArray] at N')
          exact ⟨⟨k + 1, fs ++ [.str (S l1') t1'], n2 + 1, _⟩, _, _, ho2, hb2, F', N', (by kst_in), ⟨hkk, (by rw [List.take_add_one, hl1]; simpa using strs_snoc hfs (S l1') t1')⟩, List.forall_mem_cons.mpr ⟨rfl, List.forall_mem_nil _⟩, (by ksw_same), (by show g1.length - (k + 1) < g1.length - k; omega)⟩
end
end Mine
end
theorem Mine.e9s6 : True := trivial
section
open PySem PySem.Spec PySem.Calls PyProof.Rows PySem.W
set_option maxHeartbeats 4000000
namespace Mine
theorem ob_mro : mroOf (.type "object") = pure [.type "object"] := by rw [mroOf_type]; kernel_rfl
theorem ob_lookup_new : typeLookup (.type "object") "__new__" = pure (some (.builtin "object.__new__")) := by rw [typeLookup_type, builtinLookup_eq_fast]; kernel_rfl
theorem ob_init : Slot "object" "__init__" "object.__init__" :=
  .of (owner := "object") (n := "__init__") (by rw [typeLookup_type, builtinLookup_eq_fast]; kernel_rfl) (by decide +kernel) (by decide +kernel) (by decide +kernel)
    (by first | exact .inl (by decide +kernel) | exact .inr (by decide +kernel)) (by rw [isSubtype_type]; kernel_rfl)
theorem ob_sub : isSubtype (.type "object") (.type "object") = pure true := by rw [isSubtype_type]; kernel_rfl
theorem ob_called : TypeCalled "object" "object.__new__" "object.__init__" :=
  ⟨by decide +kernel, by decide +kernel, ⟨_, _, ob_mro⟩, madeBy_type ob_mro ob_lookup_new (by decide +kernel), by decide +kernel, by rw [isSubtype_type]; kernel_rfl, ob_init⟩
theorem ob_typeCall : checkTypeCall "object" ⟨[], []⟩ = pure () := by kernel_rfl
theorem ob_newCall : checkBuiltinCall "object.__new__" ⟨[.type "object"], []⟩ = pure () := by kernel_rfl
theorem ob_entry : entryFor table "object.__new__" = some Builtin.«object.__new__» := entryFor_of_tree (by kernel_rfl)
section
variable {prog : Program} {w : World} {A : Around} {E : Value → Shared → Prop} {s : Shared}
theorem ob_new {R : Result → Shared → Prop} (h : ∀ o : Obj, o.cls = .type "object" → o.isFreed = false → R (.ok (.ret (.ref s.heap.objs.size))) { s with heap := s.heap.push o }) :
    codeAny (model prog w) A (.call (.builtin "object.__new__") ⟨[.type "object"], []⟩) R s := by
  refine codeAny_call_builtin ob_called.plain ob_entry (wpAny_of_eq ob_newCall ?_)
  unfold Builtin.«object.__new__»
  obtain ⟨hp, g, d, tk, os⟩ := s
  have f1 := ob_called.made
  dsimp only
  repeat k_extra "wq"
  exact h _ rfl rfl
theorem r_object {Q : Value → Shared → Prop} (h : ∀ (o : Obj) tk, o.isFreed = false → o.cls = .type "object" → Q (.ref s.heap.objs.size) { s with heap := s.heap.push o, toks := tk }) : wpAny (model prog w) A (call (.type "object") []) Q E s := by
  have hmade := ob_called.made
  have hsub := ob_called.sub
  have h1 := ob_called.notType
  have h2 := ob_called.canCreate
  have hct := ob_typeCall
  refine wpAny_call (codeAny_of_tree ?_)
  show wpAny _ _ (callAny (.type "object") _) _ _ _
  refine wpAny_pure ⟨Code.quiet_builtin _ (by decide +kernel), codeAny_builtin F.entry_type_call ?_⟩
  rw [Around.under_plain (weight_type_call_type "object" _ []) (units_type_call_type "object" _ [])]
  obtain ⟨c, tl, hmro⟩ := ob_called.mro
  repeat (any_goals (first | assumption | k_extra "wq"))
  refine codeAny_mono (ob_new (R := wants (fun v s₁ => s₁.TypeIs v "object" ∧ Q v s₁) E) fun o ho hfr => ?_) fun r s₁ hr => ?_
  · exact ⟨⟨o, Heap.get?_push_size _ hfr, ho⟩, by have := h o s.toks hfr ho; exact this⟩
  cases r with
  | error e => exact hr
  | ok fl =>
    cases fl with
    | ret v =>
      obtain ⟨hT, hq⟩ := hr
      have hli := ob_called.init.lookup
      have hbi := ob_called.init.bind v
      repeat (any_goals (first | assumption | k_extra "wq"))
      refine codeAny_mono (codeAny_call_builtin (R := wants (fun r s₂ => r = .none ∧ Q v s₂) E) ob_called.init.plain F.entry_object_init (ob_called.init.check _ _ _ _ _ _ _ _ hT (F.args_object_init_1 v) ?_)) fun r₂ s₂ hr₂ => ?_
      · unfold Builtin.«object.__init__»
        repeat k_extra "wq"
        exact ⟨rfl, hq⟩
      cases r₂ with
      | error e => exact hr₂
      | ok fl₂ =>
        cases fl₂ with
        | ret r =>
          obtain ⟨rfl, hq⟩ := hr₂
          repeat (any_goals (first | assumption | k_extra "wq"))
        | _ => exact hr₂.elim
    | _ => exact hr.elim
end
end Mine
end
section
open PySem PySem.Spec PySem.Calls PyProof.Rows PySem.W
set_option maxHeartbeats 4000000
namespace Mine
theorem kw19 : True := by
  (k_with "9call ref" => ((fail_if_success first | have := @Mine.e9s7 | fail); with_unfolding_all (first | with_reducible refine stopC3 ?_ | refine stopC3 ?_)))
  trivial
theorem r_objectK {prog : Program} {w : World} {A : Around} {E : Value → Shared → Prop} {s : Shared} {h₀ : Heap} {L : Addr} {m : Str → Option Value} {news : List (Addr × Obj)} {Q : Value → Shared → Prop} (F : Fr h₀ L s.heap m) (N : News h₀ L s.heap news)
    (h : ∀ x o h' tk, Fr h₀ L h' m → News h₀ L h' ((x, o) :: news) → (∀ p ∈ news, p.1 < x) → Q (.ref x) { s with heap := h', toks := tk }) : wpAny (model prog w) A (call (.type "object") []) Q E s := by
  refine r_object fun o tk hfr _ => h _ o _ tk (F.push _) (fun p hp => ?_) fun p hp => Heap.lt_size (N p hp).1
  rcases List.mem_cons.mp hp with rfl | hp
  · exact ⟨Heap.get?_push_size _ hfr, Nat.ne_of_gt F.ns.lt, Heap.get?_none_of_le (Nat.le_trans F.above (Nat.le_of_lt F.ns.lt))⟩
  · exact ⟨Heap.get?_push_of_some _ (N p hp).1, (N p hp).2⟩
theorem backT {g h h' : Heap} {L P : Addr} {m : Str → Option Value} {news : List (Addr × Obj)} {o : Obj} (F : Fr g L h m) (N : News g L h news) (hm : (P, o) ∈ news) (k : (hideAll h [P]).StaysIn h') : Fr g L h' m := by
  have nP : ∀ b x, g.get? b = some x → b ∉ [P] := fun b x e q => by
    rw [List.mem_singleton.mp q, (N _ hm).2.2] at e; cases e
  obtain ⟨oL, es, ep, hL, r⟩ := F.ns
  exact ⟨⟨oL, es, ep, k _ _ (hideAll_get _ hL fun q => (N _ hm).2.1 (List.mem_singleton.mp q).symm), r⟩, fun b x e => k _ _ (hideAll_get _ (F.keep _ _ e) (nP b x e)), F.above⟩
theorem keepT {h h' : Heap} {P b : Addr} {o : Obj} (k : (hideAll h [P]).StaysIn h') (e : h.get? b = some o) (hn : b ≠ P) : h'.get? b = some o :=
  k _ _ (hideAll_get _ e fun q => hn (List.mem_singleton.mp q))
theorem newT {g h h' : Heap} {L l : Addr} {m : Str → Option Value} {o : Obj} (F : Fr g L h m) (hn : h.get? l = none) (hl : h'.get? l = some o) : h'.get? l = some o ∧ l ≠ L ∧ g.get? l = none := by
  refine ⟨hl, fun q => ?_, ?_⟩
  · obtain ⟨oL, es, ep, hL, r⟩ := F.ns
    rw [q, hL] at hn; cases hn
  · cases q : g.get? l with
    | none => rfl
    | some o' => rw [F.keep _ _ q] at hn; cases hn
section
variable {w : World} {base h₀ : Heap} {outer : List Env} {L : Addr} {m : Str → Option Value} {env : Env} {news : List (Addr × Obj)}
  {hd : Option Value} {dp un : Nat} {gd : Option (List Code)} {s : Shared} {Q E : Value → Shared → Prop}
end
namespace EC_tl
theorem kw20 : True := by
  (k_with "9call type:object" => ((fail_if_success first | have := @Mine.e9s7 | fail); with_unfolding_all walk_at "nm"; (first | with_reducible refine r_objectK F' N' ?_ | refine r_objectK F' N' ?_); intro xs' os' h' tk' F' N' l1; try k_lt l1))
  trivial
noncomputable def Pk9 (w : World) (base : Heap) (h₀ : Heap) (outer : List Env) (L : Addr) (m : Str → Option Value) (env : Env) (news : List (Addr × Obj)) (dp : Nat) (un : Nat) (gd : Option (List Code)) (s : Shared) (Q : Value → Shared → Prop) (E : Value → Shared → Prop) (ts : List Tk) (gs : List (List (List Nat))) (pat : List Nat) (t0 : Tok) (ps : Array Value) : Prop := ∀ (am : Amb w base h₀ L m env outer news s.heap) (hdp : dp < 320) (hpat : flat ts = pat) (hlen : pat.length ≤ 100) (hts : ∀ x ∈ ts, x.ok) (hadj : ∀ k, ts[k]? = some .star → ts[k + 1]? ≠ some .star) (hgs : parts ts = none :: encG gs) (hne : ∀ g ∈ gs, g ≠ []) (hfl : ((gs.map outL).flatten).length ≤ 200) (bare : AllBare s.gens) (hC : CodeHd h₀ 88 84) (hm : (84, tabObj ps) ∈ news) (hps : TripRef ps.toList) (hret : ∀ t (ps' : Array Value) s', s'.os = s.os → AllBare s'.gens → (hideAll s.heap [84]).StaysIn s'.heap → s'.heap.get? 84 = some (tabObj ps') → TripRef ps'.toList → Q (.str (S (reL gs)) t) s'),
    wpAny (MD w) (ar none dp un gd env outer) (call (.ref 70) [.str (S pat) t0]) Q E s
noncomputable def Pu9 (x : ((((((World) × (Heap)) × (Heap)) × ((List Env) × (Addr))) × ((((Str → Option Value) × (Env)) × (List (Addr × Obj))) × ((Nat) × (Nat)))) × (((((Option (List Code)) × (Shared)) × (Value → Shared → Prop)) × ((Value → Shared → Prop) × (List Tk))) × (((List (List (List Nat))) × (List Nat)) × ((Tok) × (Array Value)))))) : Prop := Pk9 x.1.1.1.1.1 x.1.1.1.1.2 x.1.1.1.2 x.1.1.2.1 x.1.1.2.2 x.1.2.1.1.1 x.1.2.1.1.2 x.1.2.1.2 x.1.2.2.1 x.1.2.2.2 x.2.1.1.1.1 x.2.1.1.1.2 x.2.1.1.2 x.2.1.2.1 x.2.1.2.2 x.2.2.1.1 x.2.2.1.2 x.2.2.2.1 x.2.2.2.2
noncomputable def ck9 : {x : _ // Pu9 x → ∀ y, Pu9 y} := Classical.choice (drink (by repeat (first | exact neS | exact neW | exact neA | refine ne2 ?_ ?_ | exact ⟨default⟩ | exact ⟨fun _ _ => True⟩ | exact ⟨fun _ => True⟩ | exact ⟨fun _ => default⟩ | exact ⟨fun _ _ => default⟩)))
noncomputable def w : World := ck9.1.1.1.1.1.1
noncomputable def base : Heap := ck9.1.1.1.1.1.2
noncomputable def h₀ : Heap := ck9.1.1.1.1.2
noncomputable def outer : List Env := ck9.1.1.1.2.1
noncomputable def L : Addr := ck9.1.1.1.2.2
noncomputable def m : Str → Option Value := ck9.1.1.2.1.1.1
noncomputable def env : Env := ck9.1.1.2.1.1.2
noncomputable def news : List (Addr × Obj) := ck9.1.1.2.1.2
noncomputable def dp : Nat := ck9.1.1.2.2.1
noncomputable def un : Nat := ck9.1.1.2.2.2
noncomputable def gd : Option (List Code) := ck9.1.2.1.1.1.1
noncomputable def s : Shared := ck9.1.2.1.1.1.2
noncomputable def Q : Value → Shared → Prop := ck9.1.2.1.1.2
noncomputable def E : Value → Shared → Prop := ck9.1.2.1.2.1
noncomputable def ts : List Tk := ck9.1.2.1.2.2
noncomputable def gs : List (List (List Nat)) := ck9.1.2.2.1.1
noncomputable def pat : List Nat := ck9.1.2.2.1.2
noncomputable def t0 : Tok := ck9.1.2.2.2.1
noncomputable def ps : Array Value := ck9.1.2.2.2.2
theorem kk9 : Pk9 w base h₀ outer L m env news dp un gd s Q E ts gs pat t0 ps := by
  intro am hdp hpat hlen hts hadj hgs hne hfl bare hC hm hps hret
  have htb : ∀ p ∈ ([(84, tabObj ps)] : List (Addr × Obj)), p ∈ news := List.forall_mem_cons.mpr ⟨hm, List.forall_mem_nil _⟩
  have mk9 : Clm := ⟨trivial⟩
  obtain ⟨⟨A₀, B⟩, F, X, N, ⟨p, loose, mean, mg, mb, T⟩, hf, hke⟩ := am
  have XX := Frag.In.keeps X (Fr.keep F)
  have hK : (fun (_ : OpenLaw) (_ : Params → Frag) => True) PySem.Challenge.rw_rx0047_01 Mine.hd0.heap_1 := by (k_fill; trivial)
  refine' wpAny_call (enter (binds := [(Str.ofString "pat", .str (S pat) t0)]) B F N htb (Top.nolimit T) rfl hf hke ?ho_e11 ?hd_e11 ?hcd_e11 ?hroom_e11 ?hbind_e11 ?hloc_e11 ?h_e11 ?hcell_e11 ?hco_e11 ?hgen_e11 ?hk_e11)
  (case ho_e11 => exact XX _ _ (by k_is))
  (case hd_e11 => exact rfl)
  (case hcd_e11 => exact codeRec_of XX (by k_is))
  (case hroom_e11 => exact Nat.lt_of_lt_of_le hdp (by decide))
  (case hbind_e11 => first | exact BindsTo.of_eq rfl | exact binds_K XX rfl (by k_is) rfl rfl rfl)
  (case hloc_e11 => exact locs rfl)
  (case hcell_e11 => decide)
  (case hco_e11 => exact rfl)
  (case hgen_e11 => exact rfl)
  (case hk_e11 => exact rfl)
  intro g L' h₁ tk₁ hg F' N' B' st l1
  have X' := Frag.In.keeps X st
  have T' := Top.keeps T st
  (try k_lt l1)
  (try dsimp only)
  (try k_fold)
  clear hK
  (try revert T')
  (try revert X')
  (try revert l1)
  (try revert st)
  (try revert B')
  (try revert N')
  (try revert F')
  (try revert hg)
  (try revert hK)
  (try revert XX)
  (try revert hke)
  (try revert hf)
  (try revert T)
  (try revert N)
  (try revert X)
  (try revert F)
  (try revert B)
  (repeat ((rename (_ : Prop) => z9); (fail_if_success (have : Clm := z9)); revert z9))
  revert A₀ p loose mean mg mb g L' h₁ tk₁
  (refine no_implicit_lambda% (close10 12223 ?ne_e1 (R := ?R_e1) ((?nw_e1 : ∀ A₀ p loose mean mg mb g L' h₁ tk₁, ?R_e1 A₀ p loose mean mg mb g L' h₁ tk₁) (Mine.cl 12223 ?ne_e1 (un10 ?R_e1)).1.1.1.1 (Mine.cl 12223 ?ne_e1 (un10 ?R_e1)).1.1.1.2 (Mine.cl 12223 ?ne_e1 (un10 ?R_e1)).1.1.2 (Mine.cl 12223 ?ne_e1 (un10 ?R_e1)).1.2.1 (Mine.cl 12223 ?ne_e1 (un10 ?R_e1)).1.2.2 (Mine.cl 12223 ?ne_e1 (un10 ?R_e1)).2.1.1.1 (Mine.cl 12223 ?ne_e1 (un10 ?R_e1)).2.1.1.2 (Mine.cl 12223 ?ne_e1 (un10 ?R_e1)).2.1.2 (Mine.cl 12223 ?ne_e1 (un10 ?R_e1)).2.2.1 (Mine.cl 12223 ?ne_e1 (un10 ?R_e1)).2.2.2)))
  (case ne_e1 => repeat (first | exact ⟨default⟩ | exact neS | exact neW | exact neA | refine ne2 ?_ ?_))
  intro A₀ p loose mean mg mb g L' h₁ tk₁
  (set_option tactic.hygienic false in intros)
  have mk9 : Clm := ⟨trivial⟩
  have fo9 : FoldOn := ⟨trivial⟩
  have hC' := CodeHd.keeps hC st
  k_steps
  unfold Hold
  walk_at "nm"
  have hxs : xs' ≠ 84 := Nat.ne_of_gt (by first | exact l1 | exact l1.1)
  with_unfolding_all refine' C_tran (am := ?am) (hdp := ?q1) (hpat := hpat) (hlen := hlen) (hts := hts) (hadj := hadj) (bare := bare) (hC := hC') (hm := ?m1) (hps := hps) (hs := ?m2) (hst := hxs) (hret := ?hr)
  case am => exact ⟨⟨_, B'⟩, F', X', N', ⟨_, _, _, _, _, T'⟩, rfl, rfl⟩
  case q1 => show dp + 1 < 400; omega
  case m1 => k_mem
  case m2 => k_mem
  case hr =>
    intro l vs n ps' s' ho' hb' k' h84 hps' hln hlv hpv
    have F2 := backT F' N' (P := 84) (o := tabObj ps) (by k_mem) k'
    have N2 : News g L' s'.heap [(l, listOf (List.toArray vs) n), (84, tabObj ps'), (xs', os')] :=
      List.forall_mem_cons.mpr ⟨newT F' hln hlv, List.forall_mem_cons.mpr ⟨⟨h84, (N' (84, tabObj ps) (by k_mem)).2⟩, List.forall_mem_cons.mpr ⟨⟨keepT k' (N' (xs', os') (by k_mem)).1 hxs, (N' (xs', os') (by k_mem)).2⟩, List.forall_mem_nil _⟩⟩⟩
    clear F' N'
    have F' := F2
    have N' := N2
    k_steps
    unfold Hold
    walk_at "nm"
    rw [hgs] at hpv
    with_unfolding_all refine' C_join (am := ?am2) (hdp := ?q2) (hv := hpv) (hne := hne) (hlen := ?hlen2) (hfl := hfl) (bare := hb') (hi := ?m3) (hs := ?m4) (hret := ?hr2)
    case am2 => exact ⟨⟨_, B'⟩, F', X', N', ⟨_, _, _, _, _, T'⟩, rfl, rfl⟩
    case q2 => show dp + 1 < 400; omega
    case m3 => k_mem
    case m4 => k_mem
    case hlen2 =>
      have h1 := congrArg List.length hgs
      have h2 := flat_len ts
      rw [hpat] at h2
      unfold parts at h1
      simp at h1
      omega
    case hr2 =>
      intro t6 s6 ho6 hb6 k6
      exact hret t6 ps' s6 (ho6.trans ho') hb6 (stays2 hg (List.forall_mem_cons.mpr ⟨.inl rfl, List.forall_mem_nil _⟩) (fun b o e => k6 _ _ (F'.keep _ _ e))) (k6 _ _ (N' (84, tabObj ps') (by k_mem)).1) hps'
end EC_tl
section
variable {w : World} {base h₀ : Heap} {outer : List Env} {L : Addr} {m : Str → Option Value} {env : Env} {news : List (Addr × Obj)}
  {hd : Option Value} {dp un : Nat} {gd : Option (List Code)} {s : Shared} {Q E : Value → Shared → Prop}
theorem C_tl {ts : List Tk} {gs : List (List (List Nat))} {pat : List Nat} {t0 : Tok} {ps : Array Value} (am : Amb w base h₀ L m env outer news s.heap) (hdp : dp < 320) (hpat : flat ts = pat) (hlen : pat.length ≤ 100) (hts : ∀ x ∈ ts, x.ok) (hadj : ∀ k, ts[k]? = some .star → ts[k + 1]? ≠ some .star) (hgs : parts ts = none :: encG gs) (hne : ∀ g ∈ gs, g ≠ []) (hfl : ((gs.map outL).flatten).length ≤ 200) (bare : AllBare s.gens)
    (hC : CodeHd h₀ 88 84) (hm : (84, tabObj ps) ∈ news) (hps : TripRef ps.toList)
    (hret : ∀ t (ps' : Array Value) s', s'.os = s.os → AllBare s'.gens → (hideAll s.heap [84]).StaysIn s'.heap → s'.heap.get? 84 = some (tabObj ps') → TripRef ps'.toList → Q (.str (S (reL gs)) t) s') :
    wpAny (MD w) (ar none dp un gd env outer) (call (.ref 70) [.str (S pat) t0]) Q E s :=
  EC_tl.ck9.2 EC_tl.kk9 (((((w, base), h₀), (outer, L)), (((m, env), news), (dp, un))), ((((gd, s), Q), (E, ts)), ((gs, pat), (t0, ps)))) am hdp hpat hlen hts hadj hgs hne hfl bare hC hm hps hret
end
end Mine
end
theorem Mine.e9s7 : True := trivial
section
open PySem PySem.Spec PySem.Calls PyProof.Rows PySem.W
open PySem.Builtin PySem.Builtin.Str
set_option maxHeartbeats 4000000
namespace Mine
theorem eq_lit {c d : Nat} {y : Str} (hy : y.cps.toList = [d]) (h : c ≠ d) : ((S [c]).cps.toList == y.cps.toList) = false := by
  rw [hy]; show ([c] == [d]) = false; simpa using h
theorem eq_lit2 {c d : Nat} {y : Str} (hy : y.cps.toList = [d]) (h : c ≠ d) : ((S [c]).cps.toList != y.cps.toList) = true := by
  rw [bne, eq_lit hy h]; rfl
section
variable {prog : Program} {w : World} {A : Around} {E : Value → Shared → Prop} {s : Shared} {t u v : Tok} {Q : Value → Shared → Prop} {l : List Nat} {d : Nat} {x y z : Str}
theorem r_in0 (hx : x = S l) (hd : d ∉ l) (h : Q (.bool false) s) : wpAny (model prog w) A (compareOp .In (.str (S [d]) u) (.str x t)) Q E s := by
  subst hx
  refine in_str ?_
  rw [occ_nil hd]; exact h
end
theorem kw21 : True := by
  (k_with "9subscriptTail Name Name str int" => ((fail_if_success first | have := @Mine.e9s8 | fail); with_unfolding_all (first | with_reducible refine r_item (by omega) (by assumption) (by omega) ?_ | refine r_item (by omega) (by assumption) (by omega) ?_)))
  (k_with "9subscriptTail Name BinOp str int" => ((fail_if_success first | have := @Mine.e9s8 | fail); with_unfolding_all (first | with_reducible refine r_item (by omega) (by assumption) (by omega) ?_ | refine r_item (by omega) (by assumption) (by omega) ?_)))
  (k_with "9compareOp Eq str str" => ((fail_if_success first | have := @Mine.e9s8 | fail); with_unfolding_all first | with_reducible refine r_eq true (by decide +kernel) ?_ | with_reducible refine r_eq false (by decide +kernel) ?_ | with_reducible refine r_eq false (eq_lit (d := 92) (by decide +kernel) (by assumption)) ?_ | with_reducible refine r_eq false (eq_lit (d := 91) (by decide +kernel) (by assumption)) ?_ | refine r_eq true (by decide +kernel) ?_ | refine r_eq false (by decide +kernel) ?_ | refine r_eq false (eq_lit (d := 92) (by decide +kernel) (by assumption)) ?_ | refine r_eq false (eq_lit (d := 91) (by decide +kernel) (by assumption)) ?_))
  (k_with "9compareOp NotEq str str" => ((fail_if_success first | have := @Mine.e9s8 | fail); with_unfolding_all first | with_reducible refine r_ne false (by decide +kernel) ?_ | with_reducible refine r_ne true (by decide +kernel) ?_ | refine r_ne false (by decide +kernel) ?_ | refine r_ne true (by decide +kernel) ?_))
  (k_with "9compareOp In str str" => ((fail_if_success first | have := @Mine.e9s8 | fail); with_unfolding_all first | with_reducible refine r_in0 (l := [94]) (by decide +kernel) (by assumption) ?_ | with_reducible refine r_in0 (l := [94, 46, 36, 42, 43, 63, 123, 125, 124, 40, 41]) (by decide +kernel) (by assumption) ?_ | refine r_in0 (l := [94]) (by decide +kernel) (by assumption) ?_ | refine r_in0 (l := [94, 46, 36, 42, 43, 63, 123, 125, 124, 40, 41]) (by decide +kernel) (by assumption) ?_))
  trivial
inductive SgAt (l : List Nat) (c : Nat) : Nat → Nat → Prop
  | box {p : Nat} : l[p]? = some 91 → l[p + 1]? = some c → l[p + 2]? = some 93 → c ≠ 92 → c ≠ 94 → SgAt l c p (p + 3)
  | boxEsc {p : Nat} : l[p]? = some 91 → l[p + 1]? = some 92 → l[p + 2]? = some c → l[p + 3]? = some 93 → SgAt l c p (p + 4)
  | bare {p : Nat} : l[p]? = some c → c ≠ 91 → c ≠ 92 → c ∉ [94, 46, 36, 42, 43, 63, 123, 125, 124, 40, 41] → SgAt l c p (p + 1)
  | bareEsc {p : Nat} : l[p]? = some 92 → l[p + 1]? = some c → SgAt l c p (p + 2)
section
variable {w : World} {base h₀ : Heap} {outer : List Env} {L : Addr} {m : Str → Option Value} {env : Env} {news : List (Addr × Obj)}
  {hd : Option Value} {dp un : Nat} {gd : Option (List Code)} {s : Shared} {Q E : Value → Shared → Prop}
theorem C_sign {l : List Nat} {c i0 q : Nat} {t0 t1 : Tok} (am : Amb w base h₀ L m env outer news s.heap) (hdp : dp < 400) (hlen : l.length ≤ 1000) (hsg : SgAt l c i0 q)
    (hret : ∀ D ta tb h' tk, s.heap.StaysIn h' → s.heap.get? D = none → h'.get? D = some { cls := .type "tuple", data := .seq #[.str (S [c]) ta, .int (q : Nat) tb] } → Q (.ref D) { s with heap := h', toks := tk }) :
    wpAny (MD w) (ar none dp un gd env outer) (call (.ref 112) [.str (S l) t0, .int (i0 : Nat) t1]) Q E s := by
  (try revert hret)
  (try revert hsg)
  (try revert hlen)
  (try revert hdp)
  (try revert am)
  (repeat ((rename (_ : Prop) => z9); (fail_if_success (have : Clm := z9)); revert z9))
  revert w base h₀ outer L m env news dp un gd s Q E l c i0 q t0 t1
  (refine no_implicit_lambda% (close20 64900 ?ne_z1 (R := ?R_z1) ((?nw_z1 : ∀ w base h₀ outer L m env news dp un gd s Q E l c i0 q t0 t1, ?R_z1 w base h₀ outer L m env news dp un gd s Q E l c i0 q t0 t1) (Mine.cl 64900 ?ne_z1 (un20 ?R_z1)).1.1.1.1.1 (Mine.cl 64900 ?ne_z1 (un20 ?R_z1)).1.1.1.1.2 (Mine.cl 64900 ?ne_z1 (un20 ?R_z1)).1.1.1.2 (Mine.cl 64900 ?ne_z1 (un20 ?R_z1)).1.1.2.1 (Mine.cl 64900 ?ne_z1 (un20 ?R_z1)).1.1.2.2 (Mine.cl 64900 ?ne_z1 (un20 ?R_z1)).1.2.1.1.1 (Mine.cl 64900 ?ne_z1 (un20 ?R_z1)).1.2.1.1.2 (Mine.cl 64900 ?ne_z1 (un20 ?R_z1)).1.2.1.2 (Mine.cl 64900 ?ne_z1 (un20 ?R_z1)).1.2.2.1 (Mine.cl 64900 ?ne_z1 (un20 ?R_z1)).1.2.2.2 (Mine.cl 64900 ?ne_z1 (un20 ?R_z1)).2.1.1.1.1 (Mine.cl 64900 ?ne_z1 (un20 ?R_z1)).2.1.1.1.2 (Mine.cl 64900 ?ne_z1 (un20 ?R_z1)).2.1.1.2 (Mine.cl 64900 ?ne_z1 (un20 ?R_z1)).2.1.2.1 (Mine.cl 64900 ?ne_z1 (un20 ?R_z1)).2.1.2.2 (Mine.cl 64900 ?ne_z1 (un20 ?R_z1)).2.2.1.1.1 (Mine.cl 64900 ?ne_z1 (un20 ?R_z1)).2.2.1.1.2 (Mine.cl 64900 ?ne_z1 (un20 ?R_z1)).2.2.1.2 (Mine.cl 64900 ?ne_z1 (un20 ?R_z1)).2.2.2.1 (Mine.cl 64900 ?ne_z1 (un20 ?R_z1)).2.2.2.2)))
  (case ne_z1 => repeat (first | exact ⟨default⟩ | exact neS | exact neW | exact neA | refine ne2 ?_ ?_))
  intro w base h₀ outer L m env news dp un gd s Q E l c i0 q t0 t1
  (set_option tactic.hygienic false in intros)
  have mk9 : Clm := ⟨trivial⟩
  have htb : ∀ p ∈ ([] : List (Addr × Obj)), p ∈ news := fun p hp => nomatch hp
  have mk9 : Clm := ⟨trivial⟩
  obtain ⟨⟨A₀, B⟩, F, X, N, ⟨p, loose, mean, mg, mb, T⟩, hf, hke⟩ := am
  have XX := Frag.In.keeps X (Fr.keep F)
  have hK : (fun (_ : OpenLaw) (_ : Params → Frag) => True) PySem.Challenge.rw_rx0047_01 Mine.hd0.heap_1 := by (k_fill; trivial)
  refine' wpAny_call (enter (binds := [(Str.ofString "text", .str (S l) t0), (Str.ofString "place", .int (i0 : Nat) t1)]) B F N htb (Top.nolimit T) rfl hf hke ?ho_e12 ?hd_e12 ?hcd_e12 ?hroom_e12 ?hbind_e12 ?hloc_e12 ?h_e12 ?hcell_e12 ?hco_e12 ?hgen_e12 ?hk_e12)
  (case ho_e12 => exact XX _ _ (by k_is))
  (case hd_e12 => exact rfl)
  (case hcd_e12 => exact codeRec_of XX (by k_is))
  (case hroom_e12 => exact Nat.lt_of_lt_of_le hdp (by decide))
  (case hbind_e12 => first | exact BindsTo.of_eq rfl | exact binds_K XX rfl (by k_is) rfl rfl rfl)
  (case hloc_e12 => exact locs rfl)
  (case hcell_e12 => decide)
  (case hco_e12 => exact rfl)
  (case hgen_e12 => exact rfl)
  (case hk_e12 => exact rfl)
  intro g L' h₁ tk₁ hg F' N' B' st l1
  have X' := Frag.In.keeps X st
  have T' := Top.keeps T st
  (try k_lt l1)
  (try dsimp only)
  (try k_fold)
  clear hK
  (try revert T')
  (try revert X')
  (try revert l1)
  (try revert st)
  (try revert B')
  (try revert N')
  (try revert F')
  (try revert hg)
  (try revert hK)
  (try revert XX)
  (try revert hke)
  (try revert hf)
  (try revert T)
  (try revert N)
  (try revert X)
  (try revert F)
  (try revert B)
  (repeat ((rename (_ : Prop) => z9); (fail_if_success (have : Clm := z9)); revert z9))
  revert A₀ p loose mean mg mb g L' h₁ tk₁
  (refine no_implicit_lambda% (close10 38255 ?ne_e (R := ?R_e) ((?nw_e : ∀ A₀ p loose mean mg mb g L' h₁ tk₁, ?R_e A₀ p loose mean mg mb g L' h₁ tk₁) (Mine.cl 38255 ?ne_e (un10 ?R_e)).1.1.1.1 (Mine.cl 38255 ?ne_e (un10 ?R_e)).1.1.1.2 (Mine.cl 38255 ?ne_e (un10 ?R_e)).1.1.2 (Mine.cl 38255 ?ne_e (un10 ?R_e)).1.2.1 (Mine.cl 38255 ?ne_e (un10 ?R_e)).1.2.2 (Mine.cl 38255 ?ne_e (un10 ?R_e)).2.1.1.1 (Mine.cl 38255 ?ne_e (un10 ?R_e)).2.1.1.2 (Mine.cl 38255 ?ne_e (un10 ?R_e)).2.1.2 (Mine.cl 38255 ?ne_e (un10 ?R_e)).2.2.1 (Mine.cl 38255 ?ne_e (un10 ?R_e)).2.2.2)))
  (case ne_e => repeat (first | exact ⟨default⟩ | exact neS | exact neW | exact neA | refine ne2 ?_ ?_))
  intro A₀ p loose mean mg mb g L' h₁ tk₁
  (set_option tactic.hygienic false in intros)
  have mk9 : Clm := ⟨trivial⟩
  have fo9 : FoldOn := ⟨trivial⟩
  cases hsg with
  | box a0 a1 a2 n1 n2 =>
    have a0 : l[((i0 : Nat) : Int).toNat]? = some 91 := a0
    have a1 : l[((i0 : Nat) + 1 : Int).toNat]? = some c := a1
    have a2 : l[((i0 : Nat) + 1 + 1 : Int).toNat]? = some 93 := a2
    have m1 : c ∉ [94] := by simpa using n2
    k_steps
    walk_at "nm"
    have hs := stays hg N htb F' N' (by repeat (first | exact List.forall_mem_nil _ | refine List.forall_mem_cons.mpr ⟨by k_mem, ?_⟩))
    exact hret _ _ _ _ _ (by first | exact hs | exact N'.get (by k_mem) | exact ⟨_, N'.get (by k_mem)⟩ | exact fresh hg N' (by k_mem) (by k_all)) (by first | exact hs | exact N'.get (by k_mem) | exact ⟨_, N'.get (by k_mem)⟩ | exact fresh hg N' (by k_mem) (by k_all)) ((N' _ (.head _)).1)
  | boxEsc a0 a1 a2 a3 =>
    have a0 : l[((i0 : Nat) : Int).toNat]? = some 91 := a0
    have a1 : l[((i0 : Nat) + 1 : Int).toNat]? = some 92 := a1
    have a2 : l[((i0 : Nat) + 1 + 1 : Int).toNat]? = some c := a2
    have a3 : l[((i0 : Nat) + 1 + 1 + 1 : Int).toNat]? = some 93 := a3
    k_steps
    walk_at "nm"
    have hs := stays hg N htb F' N' (by repeat (first | exact List.forall_mem_nil _ | refine List.forall_mem_cons.mpr ⟨by k_mem, ?_⟩))
    exact hret _ _ _ _ _ (by first | exact hs | exact N'.get (by k_mem) | exact ⟨_, N'.get (by k_mem)⟩ | exact fresh hg N' (by k_mem) (by k_all)) (by first | exact hs | exact N'.get (by k_mem) | exact ⟨_, N'.get (by k_mem)⟩ | exact fresh hg N' (by k_mem) (by k_all)) ((N' _ (.head _)).1)
  | bare a0 n1 n2 n3 =>
    have a0 : l[((i0 : Nat) : Int).toNat]? = some c := a0
    k_steps
    walk_at "nm"
    have hs := stays hg N htb F' N' (by repeat (first | exact List.forall_mem_nil _ | refine List.forall_mem_cons.mpr ⟨by k_mem, ?_⟩))
    exact hret _ _ _ _ _ (by first | exact hs | exact N'.get (by k_mem) | exact ⟨_, N'.get (by k_mem)⟩ | exact fresh hg N' (by k_mem) (by k_all)) (by first | exact hs | exact N'.get (by k_mem) | exact ⟨_, N'.get (by k_mem)⟩ | exact fresh hg N' (by k_mem) (by k_all)) ((N' _ (.head _)).1)
  | bareEsc a0 a1 =>
    have a0 : l[((i0 : Nat) : Int).toNat]? = some 92 := a0
    have a1 : l[((i0 : Nat) + 1 : Int).toNat]? = some c := a1
    k_steps
    walk_at "nm"
    have hs := stays hg N htb F' N' (by repeat (first | exact List.forall_mem_nil _ | refine List.forall_mem_cons.mpr ⟨by k_mem, ?_⟩))
    exact hret _ _ _ _ _ (by first | exact hs | exact N'.get (by k_mem) | exact ⟨_, N'.get (by k_mem)⟩ | exact fresh hg N' (by k_mem) (by k_all)) (by first | exact hs | exact N'.get (by k_mem) | exact ⟨_, N'.get (by k_mem)⟩ | exact fresh hg N' (by k_mem) (by k_all)) ((N' _ (.head _)).1)
end
end Mine
end
theorem Mine.e9s8 : True := trivial
section
open PySem PySem.Spec PySem.Calls PyProof.Rows PySem.W
set_option maxHeartbeats 4000000
namespace Mine
inductive SgR (c : Nat) : List Nat → Prop
  | box : c ≠ 92 → c ≠ 94 → SgR c [91, c, 93]
  | boxEsc : SgR c [91, 92, c, 93]
  | bare : c ≠ 91 → c ≠ 92 → c ∉ [94, 46, 36, 42, 43, 63, 123, 125, 124, 40, 41] → SgR c [c]
  | bareEsc : SgR c [92, c]
theorem SgR.at {c : Nat} {r : List Nat} (h : SgR c r) {l a b : List Nat} {p : Nat} (hl : l = a ++ r ++ b) (hp : a.length = p) : SgAt l c p (p + r.length) := by
  subst hl hp
  cases h with
  | box n1 n2 => exact .box (by simp) (by simp) (by simp) n1 n2
  | boxEsc => exact .boxEsc (by simp) (by simp) (by simp) (by simp)
  | bare n1 n2 n3 => exact .bare (by simp) n1 n2 n3
  | bareEsc => exact .bareEsc (by simp) (by simp)
theorem SgR.head {c : Nat} {r : List Nat} (h : SgR c r) : ∃ d r', r = d :: r' ∧ d ≠ 40 ∧ d ≠ 46 ∧ d ≠ 41 := by
  cases h with
  | box => exact ⟨91, _, rfl, by decide, by decide, by decide⟩
  | boxEsc => exact ⟨91, _, rfl, by decide, by decide, by decide⟩
  | bare n1 n2 n3 =>
    refine ⟨c, _, rfl, ?_, ?_, ?_⟩ <;> (intro q; subst q; exact n3 (by decide))
  | bareEsc => exact ⟨92, _, rfl, by decide, by decide, by decide⟩
inductive It where
  | grp
  | dots
  | close
  | sign (c : Nat) (r : List Nat)
noncomputable def It.txt : It → List Nat
  | .grp => [40, 63, 62, 46, 42, 63]
  | .dots => [46, 42]
  | .close => [41]
  | .sign _ r => r
noncomputable def It.ok : It → Prop
  | .sign c r => SgR c r
  | _ => True
noncomputable def stepR (st : List (List Nat) × List Nat) : It → List (List Nat) × List Nat
  | .grp => (st.1 ++ [[]], st.2 ++ [40])
  | .dots => (st.1 ++ [[]], st.2 ++ [42])
  | .close => (st.1, st.2 ++ [41])
  | .sign c _ => (st.1.dropLast ++ [st.1.getLast?.getD [] ++ [c]], st.2)
noncomputable def runR (its : List It) : List (List Nat) × List Nat := its.foldl stepR ([[]], [])
noncomputable def itT (its : List It) : List Nat := (its.map It.txt).flatten
theorem runR_snoc (its : List It) (x : It) : runR (its ++ [x]) = stepR (runR its) x := by unfold runR; rw [List.foldl_append]; rfl
theorem runR_take {its : List It} {k : Nat} {x : It} (h : its[k]? = some x) : runR (its.take (k + 1)) = stepR (runR (its.take k)) x := by
  rw [List.take_add_one, h]; exact runR_snoc _ _
theorem itT_take {its : List It} {k : Nat} {x : It} (h : its[k]? = some x) : itT (its.take (k + 1)) = itT (its.take k) ++ x.txt := by
  unfold itT; rw [List.take_add_one, h]; simp
theorem itT_split {its : List It} {k : Nat} {x : It} (h : its[k]? = some x) : itT its = itT (its.take k) ++ x.txt ++ itT (its.drop (k + 1)) := by
  obtain ⟨hk, e⟩ := List.getElem?_eq_some_iff.mp h
  have : its = its.take k ++ x :: its.drop (k + 1) := by
    conv => lhs; rw [← List.take_append_drop k its, List.drop_eq_getElem_cons hk, e]
  conv => lhs; rw [this]
  unfold itT
  simp
theorem It.pos {x : It} (h : x.ok) : 1 ≤ x.txt.length := by
  cases x with
  | sign c r => obtain ⟨d, r', e, _⟩ := SgR.head h; show 1 ≤ r.length; rw [e]; simp
  | _ => simp [It.txt]
theorem stepR_ne {st : List (List Nat) × List Nat} (h : st.1 ≠ []) (x : It) : (stepR st x).1 ≠ [] := by
  cases x <;> simp [stepR, h]
theorem runR_ne (its : List It) : (runR its).1 ≠ [] := by
  unfold runR
  have : ∀ (its : List It) (st : List (List Nat) × List Nat), st.1 ≠ [] → (its.foldl stepR st).1 ≠ [] := by
    intro its
    induction its with
    | nil => intro st h; exact h
    | cons x its ih => intro st h; exact ih _ (stepR_ne h x)
  exact this its _ (by simp)
theorem piece {l a b r : List Nat} {p : Nat} (hl : l = a ++ r ++ b) (hp : a.length = p) (n : Nat) (hn : n = r.length) : (l.take (p + n)).drop p = r := by
  subst hl hp hn
  rw [List.append_assoc]
  simp [List.take_append, List.drop_append]
theorem slice_ne_lit {l : List Nat} {c d p j : Nat} {ys : List Nat} {y : Str} (hy : y.cps.toList = d :: ys) (hc : l[p]? = some c) (hpj : p < j) (h : c ≠ d) : ((S ((l.take j).drop p)).cps.toList == y.cps.toList) = false := by
  rw [hy]
  show ((l.take j).drop p == d :: ys) = false
  cases q : (l.take j).drop p with
  | nil => rfl
  | cons e es =>
    have : ((l.take j).drop p)[0]? = some e := by rw [q]; rfl
    rw [List.getElem?_drop, List.getElem?_take, if_pos (by omega), Nat.add_zero, hc] at this
    have e1 : c = e := Option.some.inj this
    subst e1
    simp [h]
theorem runR_len (its : List It) : (runR its).1.length ≤ 1 + its.length ∧ (runR its).2.length ≤ its.length := by
  unfold runR
  have : ∀ (its : List It) (st : List (List Nat) × List Nat), (its.foldl stepR st).1.length ≤ st.1.length + its.length ∧ (its.foldl stepR st).2.length ≤ st.2.length + its.length := by
    intro its
    induction its with
    | nil => intro st; exact ⟨by simp, by simp⟩
    | cons x its ih =>
      intro st
      have h := ih (stepR st x)
      rw [List.foldl_cons, List.length_cons]
      have h1 : (stepR st x).2.length ≤ st.2.length + 1 := by cases x <;> simp [stepR]
      have h2 : (stepR st x).1.length ≤ st.1.length + 1 := by
        cases x <;> simp [stepR] <;> omega
      exact ⟨by omega, by omega⟩
  have h := this its ([[]], [])
  simp only [List.length_cons, List.length_nil] at h
  exact ⟨by omega, by omega⟩
theorem runR_last (its : List It) : ((runR its).1.getLast?.getD []).length ≤ its.length := by
  unfold runR
  have : ∀ (its : List It) (st : List (List Nat) × List Nat), ((its.foldl stepR st).1.getLast?.getD []).length ≤ (st.1.getLast?.getD []).length + its.length := by
    intro its
    induction its with
    | nil => intro st; exact Nat.le_refl _
    | cons x its ih =>
      intro st
      have h := ih (stepR st x)
      rw [List.foldl_cons, List.length_cons]
      have h1 : ((stepR st x).1.getLast?.getD []).length ≤ (st.1.getLast?.getD []).length + 1 := by cases x <;> simp [stepR]
      omega
  have h := this its ([[]], [])
  simpa using h
theorem its_len : ∀ {its : List It}, (∀ x ∈ its, x.ok) → its.length ≤ (itT its).length
  | [], _ => Nat.le_refl _
  | x :: its, h => by
    have h1 := its_len (fun y hy => h y (List.mem_cons_of_mem _ hy))
    have h2 := It.pos (h x (List.mem_cons_self ..))
    have e : itT (x :: its) = x.txt ++ itT its := by simp [itT]
    rw [e, List.length_append, List.length_cons]; omega
end Mine
end
section
open PySem PySem.Spec PySem.Calls PyProof.Rows PySem.W
set_option maxHeartbeats 4000000
namespace Mine
theorem foldl_rep (a : Array Nat) : ∀ (k : Nat) (b : Array Nat), ((List.replicate k a).foldl (· ++ ·) b).toList = b.toList ++ (List.replicate k a.toList).flatten
  | 0, b => by simp
  | k + 1, b => by
    rw [List.replicate_succ, List.foldl_cons, foldl_rep a k, List.replicate_succ, List.flatten_cons, Array.toList_append, List.append_assoc]
theorem mul_rep (x : List Nat) (n : Nat) : Txt.mul (S x) ((n : Int) - 2) = S (List.replicate (n - 2) x).flatten := by
  have key : ∀ y : Str, ∀ l : List Nat, y.cps.toList = l → y = S l := by
    rintro ⟨c⟩ l h
    cases c
    cases h
    rfl
  unfold Txt.mul
  split
  · rename_i h
    rw [Nat.sub_eq_zero_of_le (Int.ofNat_le.mp (Int.le_of_sub_nonpos (Int.le_of_lt_add_one h)))]
    rfl
  · split
    · rename_i h1 h
      rcases (by simpa using h : (n : Int) - 2 = 1 ∨ (S x).length = 0) with h | h
      · rw [show n - 2 = 1 by omega]; simp
      · have hx : x = [] := by
          have : x.length = 0 := by simpa [S, Str.length] using h
          exact List.eq_nil_of_length_eq_zero this
        subst hx; simp
    · apply key
      rw [foldl_rep]
      rw [show ((n : Int) - 2).toNat = n - 2 from Int.toNat_sub n 2]
      simp [S]
end Mine
end
section
open PySem PySem.Spec PySem.Calls PyProof.Rows PySem.W
set_option maxHeartbeats 4000000
namespace Mine
section
variable {prog : Program} {w : World} {A : Around} {E : Value → Shared → Prop} {s : Shared} {value slice : PySem.Expr} {h₀ : Heap} {L : Addr} {m : Str → Option Value} {news : List (Addr × Obj)} {Q : Value → Shared → Prop}
theorem r_lslice {l : Addr} {vs ws : List Value} {n : Nat} {vl vu : Value} {lo hi : Option Int} (F : Fr h₀ L s.heap m) (N : News h₀ L s.heap news) (hm : (l, listOf (List.toArray vs) n) ∈ news) (pl : IsPart vl lo) (pu : IsPart vu hi) (hv : vs.length ≤ 1000)
    (hw : (vs.drop (lo.elim 0 (clipAt vs.length))).take (hi.elim vs.length (clipAt vs.length) - lo.elim 0 (clipAt vs.length)) = ws)
    (h : ∀ D h', Fr h₀ L h' m → News h₀ L h' ((D, listOf (List.toArray ws) 0) :: news) → (∀ p ∈ news, p.1 < D) → Q (.ref D) { s with heap := h' })
    (hs : subscripted slice false (.ref l) (.ref s.heap.objs.size) = operate [.ref s.heap.objs.size, .ref l] (getItem (.ref l) (.ref s.heap.objs.size)) := by with_unfolding_all rfl)
    (ht : ∀ r, letTemporaryGo value (.ref l) r = pure () := by intro _; with_unfolding_all rfl) :
    wpAny (model prog w) A (subscriptTail value slice (.ref l) (.ref s.heap.objs.size)) Q E { s with heap := s.heap.push { cls := .type "slice", data := .fields #[vl, vu, .none] } } := by
  refine slice_list F N (N.isList hm) pl pu (fun h' F' N' => ?_) hs ht (by rw [sizeLine_eq]; simp; omega)
  rw [slicePick_plain] at N'
  simp only [List.size_toArray] at N'
  rw [hw] at N'
  exact h _ h' F' N' fun p hp => Nat.lt_succ_of_lt (Heap.lt_size (N p hp).1)
theorem rs_last {l : List Nat} {t u : Tok} {c : Nat} (hF : Fr h₀ L s.heap m) (hN : News h₀ L s.heap news) (hc : l.getLast? = some c) (hn : l.length ≤ 16777216)
    (h : ∀ h' t' k, Fr h₀ L h' m → News h₀ L h' news → Q (.str (S [c]) t') { s with heap := h', toks := k })
    (hs : subscripted slice false (.str (S l) t) (.ref s.heap.objs.size) = operate [.ref s.heap.objs.size, .str (S l) t] (getItem (.str (S l) t) (.ref s.heap.objs.size)) := by with_unfolding_all rfl)
    (ht : ∀ r, letTemporaryGo value (.str (S l) t) r = pure () := by intro _; with_unfolding_all rfl) :
    wpAny (model prog w) A (subscriptTail value slice (.str (S l) t) (.ref s.heap.objs.size)) Q E { s with heap := s.heap.push { cls := .type "slice", data := .fields #[.int (-1) u, .none, .none] } } := by
  refine slice_strN_sn hF hN (fun h' t' k a b => ?_) hs ht (by rw [S_len, sizeLine_eq]; exact hn)
  obtain ⟨l', rfl⟩ := List.getLast?_eq_some_iff.mp hc
  have := slice_sn_neg (l' ++ [c]) 1 (by decide) (by simp)
  rw [show (-((1 : Nat) : Int)) = -1 from rfl] at this
  rw [this, show (l' ++ [c]).drop ((l' ++ [c]).length - 1) = [c] by simp]
  exact h h' t' k a b
end
theorem clip_nat (n k : Nat) : clipAt n (k : Int) = min k n := by
  unfold clipAt; rw [if_neg (Int.not_lt.mpr (Int.natCast_nonneg k)), imin, imax0]; rfl
theorem clip_m1 (n : Nat) : clipAt n (-1) = n - 1 := by
  cases n with
  | zero => rfl
  | succ k =>
    unfold clipAt
    rw [if_pos (by decide), show (-1 : Int) + ((k + 1 : Nat) : Int) = (k : Int) from (congrArg (fun z => -1 + z) (Int.add_comm (k : Int) 1)).trans (Int.neg_add_cancel_left 1 k), imin, imax0, Nat.min_eq_left (Nat.le_succ k)]; rfl
theorem init_take (vs : List Value) (v : Value) : ((vs ++ [v]).drop ((none : Option Int).elim 0 (clipAt (vs ++ [v]).length))).take ((some (-1 : Int)).elim (vs ++ [v]).length (clipAt (vs ++ [v]).length) - (none : Option Int).elim 0 (clipAt (vs ++ [v]).length)) = vs := by
  simp [clip_m1]
end Mine
end
section
open PySem PySem.Spec PySem.Calls PyProof.Rows PySem.W
set_option maxHeartbeats 8000000
namespace Mine
theorem kw22 : True := by
  (k_with "om0" => ((fail_if_success first | have := @Mine.e9s9 | fail); (repeat (with_reducible rename _ ∧ _ => h9); clear h9); omega (config := {})))
  (k_with "isom0" => ((fail_if_success first | have := @Mine.e9s9 | fail); skip))
  (k_with "9call ref" => ((fail_if_success first | have := @Mine.e9s9 | fail); with_unfolding_all (first | with_reducible refine stopC3 ?_ | refine stopC3 ?_)))
  (k_with "9exec While" => ((fail_if_success first | have := @Mine.e9s9 | fail); with_unfolding_all (first | with_reducible refine stopS3 ?_ | refine stopS3 ?_)))
  (k_with "9subscriptTail Name Slice str ref" => ((fail_if_success first | have := @Mine.e9s9 | fail); with_unfolding_all walk_at "nm"; (first | with_reducible refine rs_ss F' N' (by omega) (by omega) (by omega) ?_ | refine rs_ss F' N' (by omega) (by omega) (by omega) ?_); intro h' t' k' F' N'; (try rw [hs6]); try rw [hs2]))
  (k_with "9subscriptTail Name Name str int" => ((fail_if_success first | have := @Mine.e9s9 | fail); with_unfolding_all (first | with_reducible refine r_item (by omega) (by assumption) (by omega) ?_ | refine r_item (by omega) (by assumption) (by omega) ?_)))
  (k_with "9compareOp Eq str str" => ((fail_if_success first | have := @Mine.e9s9 | fail); with_unfolding_all first | with_reducible refine r_eq false (by assumption) ?_ | with_reducible refine r_eq true (by decide +kernel) ?_ | with_reducible refine r_eq false (by decide +kernel) ?_ | refine r_eq false (by assumption) ?_ | refine r_eq true (by decide +kernel) ?_ | refine r_eq false (by decide +kernel) ?_))
  trivial
theorem r_cat {prog : Program} {w : World} {A : Around} {E : Value → Shared → Prop} {s : Shared} {h₀ : Heap} {L a b : Addr} {m : Str → Option Value} {news : List (Addr × Obj)} {vs ws : List Value} {n k : Nat} {Q : Value → Shared → Prop} (F : Fr h₀ L s.heap m) (N : News h₀ L s.heap news) (ha : (a, listOf (List.toArray vs) n) ∈ news) (hb : (b, listOf (List.toArray ws) k) ∈ news) (hsz : vs.length + ws.length ≤ 1000)
    (h : ∀ x h', Fr h₀ L h' m → News h₀ L h' ((x, listOf (List.toArray (vs ++ ws)) 0) :: news) → (∀ p ∈ news, p.1 < x) → Q (.ref x) { s with heap := h' }) : wpAny (model prog w) A (binaryOp .Add (.ref a) (.ref b)) Q E s :=
  add_arrays F N (N.isList ha) (N.isList hb) (fun h' F' N' => h _ h' F' N' fun p hp => Heap.lt_size (N p hp).1) (hsz := by rw [sizeLine_eq]; simp; omega)
theorem strs_app {vs ws : List Value} {a b : List Str} (h : StrsAre vs a) (h2 : StrsAre ws b) : StrsAre (vs ++ ws) (a ++ b) := by
  induction h with
  | nil => exact h2
  | cons m u h ih => exact .cons _ _ ih
theorem r_addR {prog : Program} {w : World} {A : Around} {E : Value → Shared → Prop} {s : Shared} {y : Str} {a b : List Nat} {t u : Tok} {Q : Value → Shared → Prop} (hy : y = S b) (hn : a.length + b.length ≤ 16777216) (h : ∀ t' k, Q (.str (S (a ++ b)) t') { s with toks := k }) :
    wpAny (model prog w) A (binaryOp .Add (.str (S a) t) (.str y u)) Q E s := by subst hy; exact r_add hn h
theorem kw23 : True := by
  (k_with "9binaryOp Add ref ref" => ((fail_if_success first | have := @Mine.e9s9 | fail); with_unfolding_all walk_at "nm"; (first | with_reducible refine r_cat (vs := vs) F' N' (by k_mem) (by k_mem) ?hz ?_ | with_reducible refine r_cat (vs := vsI) F' N' (by k_mem) (by k_mem) ?hz ?_ | refine r_cat (vs := vs) F' N' (by k_mem) (by k_mem) ?hz ?_ | refine r_cat (vs := vsI) F' N' (by k_mem) (by k_mem) ?hz ?_); (case hz => simp; omega); intro xc' h' F' N' l1; try k_lt l1))
  (k_with "9binaryOp Add str str" => ((fail_if_success first | have := @Mine.e9s9 | fail); with_unfolding_all (try rw [h4, h3]); (first | with_reducible refine r_addR (b := [40]) (by decide +kernel) ?hz ?_ | with_reducible refine r_addR (b := [42]) (by decide +kernel) ?hz ?_ | with_reducible refine r_addR (b := [41]) (by decide +kernel) ?hz ?_ | with_reducible refine r_add ?hz ?_ | refine r_addR (b := [40]) (by decide +kernel) ?hz ?_ | refine r_addR (b := [42]) (by decide +kernel) ?hz ?_ | refine r_addR (b := [41]) (by decide +kernel) ?hz ?_ | refine r_add ?hz ?_); (case hz => first | simp; done | simp; omega); intro ta' ka'))
  (k_with "9call builtin:len" => ((fail_if_success first | have := @Mine.e9s9 | fail); (with_reducible show wpAny _ _ (call (Value.builtin "len") [Value.ref _]) _ _ _); with_unfolding_all (first | with_reducible refine bm_len (l := lr) (vs := vs) (by k_asm) (by k_mem) (by omega) ?_ | refine bm_len (l := lr) (vs := vs) (by k_asm) (by k_mem) (by omega) ?_); intro _ _))
  trivial
theorem strs_split {x : Str} {vs : List Value} {a : List Str} (h : StrsAre vs (a ++ [x])) : ∃ vs' t, vs = vs' ++ [.str x t] ∧ StrsAre vs' a := by
  induction a generalizing vs with
  | nil =>
    obtain ⟨t, v', e, h'⟩ := strs_c h
    have := strs_n h'
    subst this
    exact ⟨[], t, e, .nil⟩
  | cons y a ih =>
    obtain ⟨t, v', e, h'⟩ := strs_c h
    obtain ⟨w, t', e2, h2⟩ := ih h'
    exact ⟨_ :: w, t', by rw [e, e2]; rfl, .cons _ _ h2⟩
theorem kw24 : True := by
  (k_with "9subscriptTail Name Slice ref ref" => ((fail_if_success first | have := @Mine.e9s9 | fail); with_unfolding_all walk_at "nm"; (first | with_reducible refine r_lslice (vs := vsI ++ [.str (S last) tv]) F' N' (by k_mem) .none (.int _ _) (by simp; omega) (init_take vsI _) ?_ | refine r_lslice (vs := vsI ++ [.str (S last) tv]) F' N' (by k_mem) .none (.int _ _) (by simp; omega) (init_take vsI _) ?_); intro xd' h' F' N' l1; try k_lt l1))
  (k_with "9subscriptTail Name UnaryOp ref int" => ((fail_if_success first | have := @Mine.e9s9 | fail); with_unfolding_all (first | with_reducible refine bm_last (vs := vsI) (v := .str (S last) tv) (by k_asm) (by k_mem) ?_ | refine bm_last (vs := vsI) (v := .str (S last) tv) (by k_asm) (by k_mem) ?_)))
  (k_with "9subscriptTail Name Constant ref int" => ((fail_if_success first | have := @Mine.e9s9 | fail); with_unfolding_all (first | with_reducible refine bm_last (vs := vsI) (v := .str (S last) tv) (by k_asm) (by k_mem) ?_ | refine bm_last (vs := vsI) (v := .str (S last) tv) (by k_asm) (by k_mem) ?_)))
  trivial
structure RS where
  k : Nat
  p : Nat
  vs : List Value
  lr : Addr
  n : Nat
  mt : Tok
  t : Tok
theorem nmL {h₀ h : Heap} {L a b : Addr} {oa : Obj} {r : List (Addr × Obj)} {y : Str} {t : Tok} {n : Nat} (_ : News h₀ L h ((a, oa) :: (b, listOf (List.toArray [.str y t]) n) :: r)) : ∃ b' t', b' = b ∧ t' = t := ⟨b, t, rfl, rfl⟩
section
variable {w : World} {base h₀ : Heap} {outer : List Env} {L : Addr} {m : Str → Option Value} {env : Env} {news : List (Addr × Obj)}
  {hd : Option Value} {dp un : Nat} {gd : Option (List Code)} {s : Shared} {Q E : Value → Shared → Prop}
end
namespace EC_rows
noncomputable def Pk9 (w : World) (base : Heap) (h₀ : Heap) (outer : List Env) (L : Addr) (m : Str → Option Value) (env : Env) (news : List (Addr × Obj)) (dp : Nat) (un : Nat) (gd : Option (List Code)) (s : Shared) (Q : Value → Shared → Prop) (E : Value → Shared → Prop) (ts : List Tk) (gs : List (List (List Nat))) (its : List It) (pat : List Nat) (t0 : Tok) (ps : Array Value) : Prop := ∀ (am : Amb w base h₀ L m env outer news s.heap) (hdp : dp < 310) (hpat : flat ts = pat) (hlen : pat.length ≤ 100) (hts : ∀ x ∈ ts, x.ok) (hadj : ∀ k, ts[k]? = some .star → ts[k + 1]? ≠ some .star) (hgs : parts ts = none :: encG gs) (hne : ∀ g ∈ gs, g ≠ []) (hfl : ((gs.map outL).flatten).length ≤ 200) (bare : AllBare s.gens) (hit : reL gs = [40, 63, 115, 58] ++ itT its ++ [41, 92, 90]) (hok : ∀ x ∈ its, x.ok) (hmk : ∀ k c r, its[k]? = some (.sign c r) → (runR (its.take k)).2.getLast? = some 40) (hfin : (runR its).2 = (List.replicate ((runR its).1.length - 2) [40, 41]).flatten ++ [42]) (hC : CodeHd h₀ 88 84) (hm : (84, tabObj ps) ∈ news) (hps : TripRef ps.toList) (hret : ∀ l vs n (ps' : Array Value) s', s'.os = s.os → AllBare s'.gens → (hideAll s.heap [84]).StaysIn s'.heap → s'.heap.get? 84 = some (tabObj ps') → TripRef ps'.toList → s.heap.get? l = none → s'.heap.get? l = some (W.listOf (List.toArray vs) n) → StrsAre vs ((runR its).1.map S) → Q (.ref l) s'),
    wpAny (MD w) (ar none dp un gd env outer) (call (.ref 119) [.str (S pat) t0]) Q E s
noncomputable def Pu9 (x : ((((((World) × (Heap)) × (Heap)) × ((List Env) × (Addr))) × ((((Str → Option Value) × (Env)) × (List (Addr × Obj))) × ((Nat) × (Nat)))) × (((((Option (List Code)) × (Shared)) × (Value → Shared → Prop)) × ((Value → Shared → Prop) × (List Tk))) × ((((List (List (List Nat))) × (List It)) × (List Nat)) × ((Tok) × (Array Value)))))) : Prop := Pk9 x.1.1.1.1.1 x.1.1.1.1.2 x.1.1.1.2 x.1.1.2.1 x.1.1.2.2 x.1.2.1.1.1 x.1.2.1.1.2 x.1.2.1.2 x.1.2.2.1 x.1.2.2.2 x.2.1.1.1.1 x.2.1.1.1.2 x.2.1.1.2 x.2.1.2.1 x.2.1.2.2 x.2.2.1.1.1 x.2.2.1.1.2 x.2.2.1.2 x.2.2.2.1 x.2.2.2.2
noncomputable def ck9 : {x : _ // Pu9 x → ∀ y, Pu9 y} := Classical.choice (drink (by repeat (first | exact neS | exact neW | exact neA | refine ne2 ?_ ?_ | exact ⟨default⟩ | exact ⟨fun _ _ => True⟩ | exact ⟨fun _ => True⟩ | exact ⟨fun _ => default⟩ | exact ⟨fun _ _ => default⟩)))
noncomputable def w : World := ck9.1.1.1.1.1.1
noncomputable def base : Heap := ck9.1.1.1.1.1.2
noncomputable def h₀ : Heap := ck9.1.1.1.1.2
noncomputable def outer : List Env := ck9.1.1.1.2.1
noncomputable def L : Addr := ck9.1.1.1.2.2
noncomputable def m : Str → Option Value := ck9.1.1.2.1.1.1
noncomputable def env : Env := ck9.1.1.2.1.1.2
noncomputable def news : List (Addr × Obj) := ck9.1.1.2.1.2
noncomputable def dp : Nat := ck9.1.1.2.2.1
noncomputable def un : Nat := ck9.1.1.2.2.2
noncomputable def gd : Option (List Code) := ck9.1.2.1.1.1.1
noncomputable def s : Shared := ck9.1.2.1.1.1.2
noncomputable def Q : Value → Shared → Prop := ck9.1.2.1.1.2
noncomputable def E : Value → Shared → Prop := ck9.1.2.1.2.1
noncomputable def ts : List Tk := ck9.1.2.1.2.2
noncomputable def gs : List (List (List Nat)) := ck9.1.2.2.1.1.1
noncomputable def its : List It := ck9.1.2.2.1.1.2
noncomputable def pat : List Nat := ck9.1.2.2.1.2
noncomputable def t0 : Tok := ck9.1.2.2.2.1
noncomputable def ps : Array Value := ck9.1.2.2.2.2
theorem kk9 : Pk9 w base h₀ outer L m env news dp un gd s Q E ts gs its pat t0 ps := by
  intro am hdp hpat hlen hts hadj hgs hne hfl bare hit hok hmk hfin hC hm hps hret
  have htb : ∀ p ∈ ([(84, tabObj ps)] : List (Addr × Obj)), p ∈ news := List.forall_mem_cons.mpr ⟨hm, List.forall_mem_nil _⟩
  have mk9 : Clm := ⟨trivial⟩
  obtain ⟨⟨A₀, B⟩, F, X, N, ⟨p, loose, mean, mg, mb, T⟩, hf, hke⟩ := am
  have XX := Frag.In.keeps X (Fr.keep F)
  have hK : (fun (_ : OpenLaw) (_ : Params → Frag) => True) PySem.Challenge.rw_rx0047_01 Mine.hd0.heap_1 := by (k_fill; trivial)
  refine' wpAny_call (enter (binds := [(Str.ofString "pattern", .str (S pat) t0)]) B F N htb (Top.nolimit T) rfl hf hke ?ho_e13 ?hd_e13 ?hcd_e13 ?hroom_e13 ?hbind_e13 ?hloc_e13 ?h_e13 ?hcell_e13 ?hco_e13 ?hgen_e13 ?hk_e13)
  (case ho_e13 => exact XX _ _ (by k_is))
  (case hd_e13 => exact rfl)
  (case hcd_e13 => exact codeRec_of XX (by k_is))
  (case hroom_e13 => exact Nat.lt_of_lt_of_le hdp (by decide))
  (case hbind_e13 => first | exact BindsTo.of_eq rfl | exact binds_K XX rfl (by k_is) rfl rfl rfl)
  (case hloc_e13 => exact locs rfl)
  (case hcell_e13 => decide)
  (case hco_e13 => exact rfl)
  (case hgen_e13 => exact rfl)
  (case hk_e13 => exact rfl)
  intro g L' h₁ tk₁ hg F' N' B' st l1
  have X' := Frag.In.keeps X st
  have T' := Top.keeps T st
  (try k_lt l1)
  (try dsimp only)
  (try k_fold)
  clear hK
  (try revert T')
  (try revert X')
  (try revert l1)
  (try revert st)
  (try revert B')
  (try revert N')
  (try revert F')
  (try revert hg)
  (try revert hK)
  (try revert XX)
  (try revert hke)
  (try revert hf)
  (try revert T)
  (try revert N)
  (try revert X)
  (try revert F)
  (try revert B)
  (repeat ((rename (_ : Prop) => z9); (fail_if_success (have : Clm := z9)); revert z9))
  revert A₀ p loose mean mg mb g L' h₁ tk₁
  (refine no_implicit_lambda% (close10 12223 ?ne_e1 (R := ?R_e1) ((?nw_e1 : ∀ A₀ p loose mean mg mb g L' h₁ tk₁, ?R_e1 A₀ p loose mean mg mb g L' h₁ tk₁) (Mine.cl 12223 ?ne_e1 (un10 ?R_e1)).1.1.1.1 (Mine.cl 12223 ?ne_e1 (un10 ?R_e1)).1.1.1.2 (Mine.cl 12223 ?ne_e1 (un10 ?R_e1)).1.1.2 (Mine.cl 12223 ?ne_e1 (un10 ?R_e1)).1.2.1 (Mine.cl 12223 ?ne_e1 (un10 ?R_e1)).1.2.2 (Mine.cl 12223 ?ne_e1 (un10 ?R_e1)).2.1.1.1 (Mine.cl 12223 ?ne_e1 (un10 ?R_e1)).2.1.1.2 (Mine.cl 12223 ?ne_e1 (un10 ?R_e1)).2.1.2 (Mine.cl 12223 ?ne_e1 (un10 ?R_e1)).2.2.1 (Mine.cl 12223 ?ne_e1 (un10 ?R_e1)).2.2.2)))
  (case ne_e1 => repeat (first | exact ⟨default⟩ | exact neS | exact neW | exact neA | refine ne2 ?_ ?_))
  intro A₀ p loose mean mg mb g L' h₁ tk₁
  (set_option tactic.hygienic false in intros)
  have mk9 : Clm := ⟨trivial⟩
  have fo9 : FoldOn := ⟨trivial⟩
  have hC' := CodeHd.keeps hC st
  k_steps
  unfold Hold
  walk_at "nm"
  with_unfolding_all refine' C_tl (am := ?am) (hdp := ?q1) (hpat := hpat) (hlen := hlen) (hts := hts) (hadj := hadj) (hgs := hgs) (hne := hne) (hfl := hfl) (bare := bare) (hC := hC') (hm := ?m1) (hps := hps) (hret := ?hr)
  case am => exact ⟨⟨_, B'⟩, F', X', N', ⟨_, _, _, _, _, T'⟩, rfl, rfl⟩
  case q1 => show dp + 1 < 320; omega
  case m1 => k_mem
  case hr =>
    intro tt ps' s' ho' hb' k' h84 hps'
    have F2 := backT F' N' (P := 84) (o := tabObj ps) (by k_mem) k'
    have N2 : News g L' s'.heap [(84, tabObj ps')] := List.forall_mem_cons.mpr ⟨⟨h84, (N' (84, tabObj ps) (by k_mem)).2⟩, List.forall_mem_nil _⟩
    clear F' N'
    have F' := F2
    have N' := N2
    rw [hit]
    obtain ⟨text, htx⟩ : ∃ text, [40, 63, 115, 58] ++ itT its ++ [41, 92, 90] = text := ⟨_, rfl⟩
    rw [htx]
    have htle : text.length ≤ 300 := by
      have e : text.length = (reL gs).length := by rw [← htx, hit]
      rw [e]; unfold reL; simp only [List.length_append, List.length_cons, List.length_nil]; omega
    have htl : text.length = 7 + (itT its).length := by rw [← htx, List.length_append, List.length_append]; exact Nat.add_right_comm 4 _ 3
    k_steps
    unfold Hold
    walk_at "nm"
    have e0 : Str.ofString "" = S [] := by decide +kernel
    (rename Fr _ _ _ _ => F')
    (try dsimp +zetaDelta only at F')
    rw [e0] at F' N'
    obtain ⟨lr0, tk0, x1, x2⟩ := nmL N'
    subst x1 x2
    obtain ⟨tk1, hk1⟩ := tokS F' (x := Str.ofString "marks") (y := S []) rfl
    obtain ⟨tk2, hk2⟩ := tokI F' (x := Str.ofString "place") (i := 4) rfl
    refine whileS (σ := RS) (fun c => [(84, tabObj ps'), (c.lr, listOf (List.toArray c.vs) c.n)]) (fun c => [(Str.ofString "rows", .ref c.lr), (Str.ofString "marks", .str (S (runR (its.take c.k)).2) c.mt), (Str.ofString "place", .int (4 + c.p : Nat) c.t)])
      (fun c => (itT (its.take c.k)).length = c.p ∧ c.k ≤ its.length ∧ StrsAre c.vs ((runR (its.take c.k)).1.map S)) [Str.ofString "sign"] (fun c => its.length - c.k) ⟨0, 0, [.str (S []) tk0], lr0, 0, tk1, tk2⟩ hb' F' ?n0 ?f0 ?k0 ?turn
    case n0 => exact cb_drop N' (by repeat (first | exact List.forall_mem_nil _ | refine List.forall_mem_cons.mpr ⟨by k_mem, ?_⟩))
    case f0 => exact ⟨rfl, Nat.zero_le _, .cons _ _ .nil⟩
    case k0 => exact List.forall_mem_cons.mpr ⟨rfl, List.forall_mem_cons.mpr ⟨hk1, List.forall_mem_cons.mpr ⟨hk2, List.forall_mem_nil _⟩⟩⟩
    case turn =>
      clear F' N'
      rintro ⟨k, p0, vs, lr, n, mt, t⟩ u s₁ ho hb ⟨hp0, hk, hvs⟩ F' N'
      dsimp only at hp0 hk hvs F' N'
      dsimp only [kstB] at F'
      refine withPO fun hPO => ?_
      generalize hR : (WhPost g L' _ _ _ _ _ _ _ _ _) = R
      have hpl : p0 ≤ (itT its).length := by
        rw [← hp0]; conv => rhs; rw [← List.take_append_drop k its]
        unfold itT; rw [List.map_append, List.flatten_append, List.length_append]; exact Nat.le_add_right _ _
      have hrl := runR_len (its.take k)
      have hvl : vs.length ≤ 1 + its.length := by
        rw [hvs.length, List.length_map]; exact Nat.le_trans hrl.1 (Nat.add_le_add_left (List.length_take_le' ..) 1)
      have hml : (runR (its.take k)).2.length ≤ its.length := by
        exact Nat.le_trans hrl.2 (List.length_take_le' ..)
      have hil := its_len hok
      have hi3 : its.length ≤ 293 := by omega
      rcases Nat.lt_or_ge k its.length with hkl | hkl
      · obtain ⟨x, hx⟩ : ∃ x, its[k]? = some x := ⟨_, List.getElem?_eq_getElem hkl⟩
        have hxo := hok x (List.mem_of_getElem? hx)
        have hxp := It.pos hxo
        have hsp := itT_split hx
        have hsl := congrArg List.length hsp
        rw [List.length_append, List.length_append, hp0] at hsl
        have hta : text = ([40, 63, 115, 58] ++ itT (its.take k)) ++ x.txt ++ (itT (its.drop (k + 1)) ++ [41, 92, 90]) := by
          rw [← htx, hsp]; simp
        have hal : ([40, 63, 115, 58] ++ itT (its.take k)).length = 4 + p0 := by rw [List.length_append, hp0]; rfl
        have hlt3 : ((4 + p0 : Nat) : Int) < (text.length : Int) - 3 := by omega
        cases x with
        | grp =>
          have hs6 : (text.take (((4 + p0 : Nat) : Int) + 6).toNat).drop ((4 + p0 : Nat) : Int).toNat = [40, 63, 62, 46, 42, 63] := piece hta hal 6 rfl
          k_steps
          rw [← hR]
          walk_at "nm"
          (try rw [e0] at N')
          exact ⟨⟨k + 1, p0 + 6, vs ++ [.str (S []) _], xc', 0, ta', _⟩, _, _, ho, hb, F', N', (by kst_in), ⟨(by rw [itT_take hx, List.length_append, hp0]; rfl), hkl, (by rw [runR_take hx]; simpa [stepR] using strs_snoc hvs (S []) _)⟩, List.forall_mem_cons.mpr ⟨rfl, List.forall_mem_cons.mpr ⟨(by rw [runR_take hx]; rfl), List.forall_mem_cons.mpr ⟨rfl, List.forall_mem_nil _⟩⟩⟩, (by ksw_same), (by show its.length - (k + 1) < its.length - k; omega)⟩
        | dots =>
          have hq0 : text[((4 + p0 : Nat) : Int).toNat]? = some 46 := by
            rw [hta, show ((4 + p0 : Nat) : Int).toNat = 4 + p0 from rfl, ← hal]; simp [It.txt]
          have hq6 : ((S ((text.take (((4 + p0 : Nat) : Int) + 6).toNat).drop ((4 + p0 : Nat) : Int).toNat)).cps.toList == (Str.ofString "(?>.*?").cps.toList) = false := slice_ne_lit (d := 40) (ys := [63, 62, 46, 42, 63]) (by decide +kernel) hq0 (by omega) (by decide)
          have hs2 : (text.take (((4 + p0 : Nat) : Int) + 2).toNat).drop ((4 + p0 : Nat) : Int).toNat = [46, 42] := piece hta hal 2 rfl
          k_steps
          rw [← hR]
          walk_at "nm"
          (try rw [e0] at N')
          exact ⟨⟨k + 1, p0 + 2, vs ++ [.str (S []) _], xc', 0, ta', _⟩, _, _, ho, hb, F', N', (by kst_in), ⟨(by rw [itT_take hx, List.length_append, hp0]; rfl), hkl, (by rw [runR_take hx]; simpa [stepR] using strs_snoc hvs (S []) _)⟩, List.forall_mem_cons.mpr ⟨rfl, List.forall_mem_cons.mpr ⟨(by rw [runR_take hx]; rfl), List.forall_mem_cons.mpr ⟨rfl, List.forall_mem_nil _⟩⟩⟩, (by ksw_same), (by show its.length - (k + 1) < its.length - k; omega)⟩
        | close =>
          have hq0 : text[((4 + p0 : Nat) : Int).toNat]? = some 41 := by
            rw [hta, show ((4 + p0 : Nat) : Int).toNat = 4 + p0 from rfl, ← hal]; simp [It.txt]
          have hq6 : ((S ((text.take (((4 + p0 : Nat) : Int) + 6).toNat).drop ((4 + p0 : Nat) : Int).toNat)).cps.toList == (Str.ofString "(?>.*?").cps.toList) = false := slice_ne_lit (d := 40) (ys := [63, 62, 46, 42, 63]) (by decide +kernel) hq0 (by omega) (by decide)
          have hq2 : ((S ((text.take (((4 + p0 : Nat) : Int) + 2).toNat).drop ((4 + p0 : Nat) : Int).toNat)).cps.toList == (Str.ofString ".*").cps.toList) = false := slice_ne_lit (d := 46) (ys := [42]) (by decide +kernel) hq0 (by omega) (by decide)
          k_steps
          rw [← hR]
          walk_at "nm"
          (try rw [e0] at N')
          exact ⟨⟨k + 1, p0 + 1, vs, lr, n, ta', _⟩, _, _, ho, hb, F', N', (by kst_in), ⟨(by rw [itT_take hx, List.length_append, hp0]; rfl), hkl, (by rw [runR_take hx]; simpa [stepR] using hvs)⟩, List.forall_mem_cons.mpr ⟨rfl, List.forall_mem_cons.mpr ⟨(by rw [runR_take hx]; rfl), List.forall_mem_cons.mpr ⟨rfl, List.forall_mem_nil _⟩⟩⟩, (by ksw_same), (by show its.length - (k + 1) < its.length - k; omega)⟩
        | sign c r =>
          have hml := hmk k c r hx
          have hsg := SgR.at hxo hta hal
          obtain ⟨d, r', hrd, d40, d46, d41⟩ := SgR.head hxo
          have hq0 : text[((4 + p0 : Nat) : Int).toNat]? = some d := by
            rw [hta, show ((4 + p0 : Nat) : Int).toNat = 4 + p0 from rfl, ← hal, hrd]; simp [It.txt]
          have hq6 : ((S ((text.take (((4 + p0 : Nat) : Int) + 6).toNat).drop ((4 + p0 : Nat) : Int).toNat)).cps.toList == (Str.ofString "(?>.*?").cps.toList) = false := slice_ne_lit (d := 40) (ys := [63, 62, 46, 42, 63]) (by decide +kernel) hq0 (by omega) d40
          have hq2 : ((S ((text.take (((4 + p0 : Nat) : Int) + 2).toNat).drop ((4 + p0 : Nat) : Int).toNat)).cps.toList == (Str.ofString ".*").cps.toList) = false := slice_ne_lit (d := 46) (ys := [42]) (by decide +kernel) hq0 (by omega) d46
          have hq1 : ((S [d]).cps.toList == (Str.ofString ")").cps.toList) = false := eq_lit (d := 41) (by decide +kernel) d41
          have hse : ((S [c]).cps.toList == (Str.ofString "").cps.toList) = false := by
            rw [show Str.ofString "" = S [] by decide +kernel]; rfl
          have hme : ((Txt.slice (S (runR (its.take k)).2) (some (-1)) none).cps.toList == (Str.ofString ")").cps.toList) = false := by
            obtain ⟨l', hl'⟩ := List.getLast?_eq_some_iff.mp hml
            have := slice_sn_neg (runR (its.take k)).2 1 (by decide) (by rw [hl']; simp)
            rw [show (-((1 : Nat) : Int)) = -1 from rfl] at this
            have e40 : List.drop ((l' ++ [40]).length - 1) (l' ++ [40]) = [40] := by simp
            rw [this, hl', e40]
            decide +kernel
          obtain ⟨init, last, hil2⟩ : ∃ init last, (runR (its.take k)).1 = init ++ [last] := ⟨_, _, (List.dropLast_concat_getLast (runR_ne _)).symm⟩
          have hll : last.length ≤ its.length := by
            have := runR_last (its.take k)
            rw [hil2] at this
            rw [List.length_take] at this
            simp at this; omega
          rw [hil2, List.map_append] at hvs
          obtain ⟨vsI, tv, rfl, hvI⟩ := strs_split hvs
          have hvl2 : vsI.length ≤ 300 := by rw [List.length_append] at hvl; exact Nat.le_trans (Nat.le_trans (Nat.le_add_right _ _) hvl) (by omega)
          k_steps
          unfold Hold
          walk_at "nm"
          with_unfolding_all refine' C_sign (am := ?am4) (hdp := ?q4) (hlen := ?q5) (hsg := hsg) (hret := ?hr4)
          case am4 => exact ⟨⟨_, B'⟩, F', X', N', ⟨_, _, _, _, _, T'⟩, rfl, rfl⟩
          case q4 => show dp + 1 < 400; omega
          case q5 => omega
          case hr4 =>
            intro D ta tb h5 tk5 k5 hDn hD
            have F2 := backF F' k5
            have N2 := backA F' (backN N' k5) hD hDn
            clear F' N'
            have F' := F2
            have N' := N2
            k_steps
            rw [← hR]
            walk_at "nm"
            exact ⟨⟨k + 1, p0 + r.length, vsI ++ [.str (S (last ++ [c])) _], xc', 0, mt, _⟩, _, _, ho, hb, F', N', (by kst_in), ⟨(by rw [itT_take hx, List.length_append, hp0]; rfl), hkl, (by
              rw [runR_take hx]
              simp only [stepR, hil2, List.dropLast_concat, List.getLast?_append, List.getLast?_singleton, Option.some_or, Option.getD_some, List.map_append]
              exact strs_snoc hvI (S (last ++ [c])) _)⟩, List.forall_mem_cons.mpr ⟨rfl, List.forall_mem_cons.mpr ⟨(by rw [runR_take hx]; rfl), List.forall_mem_cons.mpr ⟨(by rw [← Nat.add_assoc]; rfl), List.forall_mem_nil _⟩⟩⟩, (by ksw_same), (by show its.length - (k + 1) < its.length - k; omega)⟩
      · have hke : its.take k = its := List.take_of_length_le hkl
        rw [hke] at hp0 hvs F' hrl
        have hpe : p0 = (itT its).length := hp0.symm
        have h4 : Txt.slice (S text) none (some 4) = S [40, 63, 115, 58] := by
          rw [slice_ns text (by decide), ← htx]; rfl
        have h3 : Txt.slice (S text) (some (-3)) none = S [41, 92, 90] := by
          have := slice_sn_neg text 3 (by decide) (by omega)
          rw [show (-((3 : Nat) : Int)) = -3 from rfl] at this
          rw [this, ← htx]
          rw [List.drop_append_of_le_length (by simp)]
          simp
        have hwn : Txt.mul (Str.ofString "()") ((vs.length : Int) - 2) ++ Str.ofString "*" = S (runR its).2 := by
          have e1 : Str.ofString "()" = S [40, 41] := by decide +kernel
          have e2 : Str.ofString "*" = S [42] := by decide +kernel
          rw [e1, e2, mul_rep, hfin, hvs.length, List.length_map]
          exact (S_app _ _)
        k_steps
        rotate_left
        · exfalso
          (rename (_ == _) = false => hfa)
          rw [hwn] at hfa
          simp at hfa
        (try dsimp only)
        walk_at "nm"
        have hlr8 : (84 : Addr) ≠ lr := fun q => by
          have z1 := (N' (84, tabObj ps') (by k_mem)).1
          have z2 := (N' (lr, listOf (List.toArray vs) n) (by k_mem)).1
          have q : (84 : Addr) = lr := q
          rw [q] at z1
          have z1 : _ = some (tabObj ps') := z1
          rw [z2] at z1
          cases z1
        exact hret lr vs n ps' _ (ho.trans ho') hb (stays2 hg (List.forall_mem_cons.mpr ⟨.inl rfl, List.forall_mem_nil _⟩) F'.keep) (N' (84, tabObj ps') (by k_mem)).1 hps'
          (fresh hg N' (show (lr, listOf (List.toArray vs) n) ∈ _ by k_mem) (List.forall_mem_cons.mpr ⟨hlr8, List.forall_mem_nil _⟩)) (N' (lr, listOf (List.toArray vs) n) (by k_mem)).1 hvs
end EC_rows
section
variable {w : World} {base h₀ : Heap} {outer : List Env} {L : Addr} {m : Str → Option Value} {env : Env} {news : List (Addr × Obj)}
  {hd : Option Value} {dp un : Nat} {gd : Option (List Code)} {s : Shared} {Q E : Value → Shared → Prop}
theorem C_rows {ts : List Tk} {gs : List (List (List Nat))} {its : List It} {pat : List Nat} {t0 : Tok} {ps : Array Value} (am : Amb w base h₀ L m env outer news s.heap) (hdp : dp < 310) (hpat : flat ts = pat) (hlen : pat.length ≤ 100) (hts : ∀ x ∈ ts, x.ok) (hadj : ∀ k, ts[k]? = some .star → ts[k + 1]? ≠ some .star) (hgs : parts ts = none :: encG gs) (hne : ∀ g ∈ gs, g ≠ []) (hfl : ((gs.map outL).flatten).length ≤ 200) (bare : AllBare s.gens)
    (hit : reL gs = [40, 63, 115, 58] ++ itT its ++ [41, 92, 90]) (hok : ∀ x ∈ its, x.ok) (hmk : ∀ k c r, its[k]? = some (.sign c r) → (runR (its.take k)).2.getLast? = some 40)
    (hfin : (runR its).2 = (List.replicate ((runR its).1.length - 2) [40, 41]).flatten ++ [42])
    (hC : CodeHd h₀ 88 84) (hm : (84, tabObj ps) ∈ news) (hps : TripRef ps.toList)
    (hret : ∀ l vs n (ps' : Array Value) s', s'.os = s.os → AllBare s'.gens → (hideAll s.heap [84]).StaysIn s'.heap → s'.heap.get? 84 = some (tabObj ps') → TripRef ps'.toList → s.heap.get? l = none → s'.heap.get? l = some (W.listOf (List.toArray vs) n) → StrsAre vs ((runR its).1.map S) → Q (.ref l) s') :
    wpAny (MD w) (ar none dp un gd env outer) (call (.ref 119) [.str (S pat) t0]) Q E s :=
  EC_rows.ck9.2 EC_rows.kk9 (((((w, base), h₀), (outer, L)), (((m, env), news), (dp, un))), ((((gd, s), Q), (E, ts)), (((gs, its), pat), (t0, ps)))) am hdp hpat hlen hts hadj hgs hne hfl bare hit hok hmk hfin hC hm hps hret
end
end Mine
end
theorem Mine.e9s9 : True := trivial
section
open PySem PySem.Spec PySem.Calls PyProof.Rows PySem.W
set_option maxHeartbeats 1000000
namespace Mine
noncomputable def Tk.chr : Tk → Nat
  | .star => 42
  | .bare c => c
  | .boxed c => c
noncomputable def Tk.rx : Tk → List Nat
  | .star => []
  | .bare c => escL c
  | .boxed c => boxL c
noncomputable def Tk.isSign : Tk → Prop
  | .star => False
  | _ => True
noncomputable def Tk.sgn (x : Tk) : It := .sign x.chr x.rx
noncomputable def tsD (dw : List (List Tk)) : List Tk := .star :: (dw.map fun d => d ++ [.star]).flatten
noncomputable def gsD (dw : List (List Tk)) : List (List (List Nat)) := dw.map fun d => d.map Tk.rx
noncomputable def itD1 (d : List Tk) : List It := It.grp :: (d.map Tk.sgn ++ [It.close])
noncomputable def itsD (dw : List (List Tk)) : List It := (dw.map itD1).flatten ++ [It.dots]
noncomputable def wordsD (dw : List (List Tk)) : List (List Nat) := dw.map fun d => d.map Tk.chr
noncomputable def OkD (dw : List (List Tk)) : Prop := ∀ d ∈ dw, d ≠ [] ∧ d.length ≤ 2 ∧ ∀ x ∈ d, x.isSign ∧ x.ok
theorem OkD.tail {d : List Tk} {dw : List (List Tk)} (h : OkD (d :: dw)) : OkD dw := fun e he => h e (List.mem_cons_of_mem _ he)
theorem rx_part {x : Tk} (h : x.isSign) : x.part = some x.rx := by
  cases x with
  | star => exact h.elim
  | bare c => rfl
  | boxed c => rfl
theorem parts_tsD {dw : List (List Tk)} (h : OkD dw) : parts (tsD dw) = none :: encG (gsD dw) := by
  have : ∀ {dw : List (List Tk)}, OkD dw → ((dw.map fun d => d ++ [Tk.star]).flatten).map Tk.part = encG (gsD dw) := by
    intro dw
    induction dw with
    | nil => intro _; rfl
    | cons d dw ih =>
      intro h
      have e1 : d.map Tk.part = (d.map Tk.rx).map some := by
        rw [List.map_map]
        exact List.map_congr_left fun x hx => rx_part ((h d (List.mem_cons_self ..)).2.2 x hx).1
      have e2 : encG (gsD (d :: dw)) = ((d.map Tk.rx).map some ++ [none]) ++ encG (gsD dw) := by
        unfold encG gsD; simp
      rw [e2, List.map_cons, List.flatten_cons, List.map_append, List.map_append, e1, ih h.tail]
      rfl
  unfold parts tsD
  rw [List.map_cons, this h]; rfl
theorem gsD_ne {dw : List (List Tk)} (h : OkD dw) : ∀ g ∈ gsD dw, g ≠ [] := by
  intro g hg q
  obtain ⟨d, hd, rfl⟩ := List.mem_map.mp hg
  exact (h d hd).1 (List.map_eq_nil_iff.mp q)
noncomputable def adjT : List Tk → Prop
  | [] => True
  | x :: r => (x = .star → r.head? ≠ some .star) ∧ adjT r
theorem adjT.at : ∀ {ts : List Tk}, adjT ts → ∀ k, ts[k]? = some .star → ts[k + 1]? ≠ some .star
  | [], _, k, h => by simp at h
  | x :: r, ⟨h1, h2⟩, 0, h => by
    have : x = .star := by simpa using h
    have := h1 this
    rw [List.head?_eq_getElem?] at this
    simpa using this
  | x :: r, ⟨h1, h2⟩, k + 1, h => by
    have := h2.at k (by simpa using h)
    simpa using this
theorem adjT.app {r : List Tk} (hr : adjT r) : ∀ {d : List Tk}, (∀ x ∈ d, x.isSign) → adjT (d ++ r)
  | [], _ => hr
  | x :: d, h => ⟨fun e => by
      have := h x (List.mem_cons_self ..)
      rw [e] at this; exact this.elim, hr.app fun y hy => h y (List.mem_cons_of_mem _ hy)⟩
theorem adj_tsD : ∀ {dw : List (List Tk)}, OkD dw → adjT (tsD dw)
  | [], _ => ⟨fun _ => by simp, trivial⟩
  | d :: dw, h => by
    obtain ⟨hne, _, hs⟩ := h d (List.mem_cons_self ..)
    have e : tsD (d :: dw) = .star :: (d ++ tsD dw) := by unfold tsD; simp
    rw [e]
    refine ⟨fun _ => ?_, (adj_tsD h.tail).app fun x hx => (hs x hx).1⟩
    cases d with
    | nil => exact absurd rfl hne
    | cons x d =>
      intro q
      have q : x = .star := by simpa using q
      have := (hs x (List.mem_cons_self ..)).1
      rw [q] at this; exact this
theorem ok_tsD {dw : List (List Tk)} (h : OkD dw) : ∀ x ∈ tsD dw, x.ok := by
  intro x hx
  rcases List.mem_cons.mp hx with rfl | hx
  · trivial
  · obtain ⟨l, hl, hx⟩ := List.mem_flatten.mp hx
    obtain ⟨d, hd, rfl⟩ := List.mem_map.mp hl
    rcases List.mem_append.mp hx with hx | hx
    · exact ((h d hd).2.2 x hx).2
    · rw [List.mem_singleton.mp hx]; trivial
theorem sg_bare : ∀ c ∈ bares, SgR c (escL c) := by
  intro c hc
  by_cases h : c = 97
  · subst h
    exact .bare (by decide) (by decide) (by decide)
  · rw [escL, if_neg h]; exact .bareEsc
theorem sg_boxed : ∀ c ∈ stockL, SgR c (boxL c) := by
  intro c hc
  unfold boxL
  split
  · exact .boxEsc
  · rename_i h
    exact .box (by omega) (fun q => by subst q; revert hc; decide)
theorem ok_itsD {dw : List (List Tk)} (h : OkD dw) : ∀ x ∈ itsD dw, x.ok := by
  intro x hx
  rcases List.mem_append.mp hx with hx | hx
  · obtain ⟨l, hl, hx⟩ := List.mem_flatten.mp hx
    obtain ⟨d, hd, rfl⟩ := List.mem_map.mp hl
    rcases List.mem_cons.mp hx with rfl | hx
    · trivial
    · rcases List.mem_append.mp hx with hx | hx
      · obtain ⟨y, hy, rfl⟩ := List.mem_map.mp hx
        have := (h d hd).2.2 y hy
        cases y with
        | star => exact this.1.elim
        | bare c => exact sg_bare c this.2
        | boxed c => exact sg_boxed c this.2
      · rw [List.mem_singleton.mp hx]; trivial
  · rw [List.mem_singleton.mp hx]; trivial
theorem itT_app (a b : List It) : itT (a ++ b) = itT a ++ itT b := by unfold itT; simp
theorem itT_itsD (dw : List (List Tk)) : itT (itsD dw) = ((gsD dw).map outL).flatten ++ [46, 42] := by
  unfold itsD
  rw [itT_app]
  have : itT ((dw.map itD1).flatten) = ((gsD dw).map outL).flatten := by
    induction dw with
    | nil => rfl
    | cons d dw ih =>
      rw [List.map_cons, List.flatten_cons, itT_app, ih]
      have e : itT (itD1 d) = outL (d.map Tk.rx) := by
        unfold itT itD1 outL
        rw [List.map_cons, List.map_append, List.map_map, List.flatten_cons, List.flatten_append]
        rw [show (It.txt ∘ Tk.sgn) = Tk.rx from funext fun x => rfl]
        simp [It.txt]
      rw [e]; unfold gsD; simp
  rw [this]; rfl
theorem reL_itsD (dw : List (List Tk)) : reL (gsD dw) = [40, 63, 115, 58] ++ itT (itsD dw) ++ [41, 92, 90] := by
  rw [itT_itsD]; rfl
theorem run_signs (a : List (List Nat)) (mk : List Nat) : ∀ (d : List Tk) (l : List Nat), (d.map Tk.sgn).foldl stepR (a ++ [l], mk) = (a ++ [l ++ d.map Tk.chr], mk)
  | [], l => by simp
  | x :: d, l => by
    rw [List.map_cons, List.foldl_cons]
    have e : stepR (a ++ [l], mk) x.sgn = (a ++ [l ++ [x.chr]], mk) := by
      unfold Tk.sgn stepR; simp
    rw [e, run_signs a mk d]; simp
theorem run_grp (a : List (List Nat)) (mk : List Nat) (d : List Tk) : (itD1 d).foldl stepR (a, mk) = (a ++ [d.map Tk.chr], mk ++ [40, 41]) := by
  unfold itD1
  rw [List.foldl_cons, List.foldl_append]
  have e : stepR (a, mk) .grp = (a ++ [[]], mk ++ [40]) := rfl
  rw [e, run_signs]
  simp [stepR]
theorem run_grps : ∀ (dw : List (List Tk)) (a : List (List Nat)) (mk : List Nat), ((dw.map itD1).flatten).foldl stepR (a, mk) = (a ++ wordsD dw, mk ++ (List.replicate dw.length [40, 41]).flatten)
  | [], a, mk => by simp [wordsD]
  | d :: dw, a, mk => by
    rw [List.map_cons, List.flatten_cons, List.foldl_append, run_grp, run_grps dw]
    simp [wordsD, List.replicate_succ]
theorem runR_itsD (dw : List (List Tk)) : runR (itsD dw) = ([] :: (wordsD dw ++ [[]]), (List.replicate dw.length [40, 41]).flatten ++ [42]) := by
  unfold runR itsD
  rw [List.foldl_append, run_grps]
  simp [stepR]
theorem fin_itsD (dw : List (List Tk)) : (runR (itsD dw)).2 = (List.replicate ((runR (itsD dw)).1.length - 2) [40, 41]).flatten ++ [42] := by
  rw [runR_itsD]
  have : ([] :: (wordsD dw ++ [[]])).length - 2 = dw.length := by simp [wordsD]
  rw [this]
noncomputable def mkOk : Nat → List It → Prop
  | _, [] => True
  | _, .grp :: r => mkOk 40 r
  | _, .dots :: r => mkOk 42 r
  | _, .close :: r => mkOk 41 r
  | l, .sign _ _ :: r => l = 40 ∧ mkOk l r
theorem mkOk.at : ∀ {its : List It} {l : Nat} {st : List (List Nat) × List Nat}, mkOk l its → (l = 0 ∨ st.2.getLast? = some l) → ∀ k c r, its[k]? = some (.sign c r) → ((its.take k).foldl stepR st).2.getLast? = some 40
  | [], l, st, _, _, k, c, r, h => by simp at h
  | x :: its, l, st, hm, hl, k, c, r, h => by
    cases k with
    | zero =>
      have : x = .sign c r := by simpa using h
      subst this
      obtain ⟨h1, _⟩ := hm
      rcases hl with hl | hl
      · omega
      · rw [h1] at hl; exact hl
    | succ k =>
      rw [List.take_succ_cons, List.foldl_cons]
      have h : its[k]? = some (.sign c r) := by simpa using h
      cases x with
      | grp => exact mkOk.at (l := 40) hm (.inr (by simp [stepR])) k c r h
      | dots => exact mkOk.at (l := 42) hm (.inr (by simp [stepR])) k c r h
      | close => exact mkOk.at (l := 41) hm (.inr (by simp [stepR])) k c r h
      | sign c' r' => exact mkOk.at (l := l) hm.2 (by simpa [stepR] using hl) k c r h
theorem mk_signs {rest : List It} (h : mkOk 41 rest) : ∀ d : List Tk, mkOk 40 (d.map Tk.sgn ++ (It.close :: rest))
  | [] => h
  | x :: d => ⟨rfl, mk_signs h d⟩
theorem mk_itsD : ∀ (dw : List (List Tk)) (l : Nat), mkOk l (itsD dw)
  | [], l => trivial
  | d :: dw, l => by
    have e : itsD (d :: dw) = .grp :: (d.map Tk.sgn ++ (It.close :: itsD dw)) := by
      unfold itsD itD1; simp
    rw [e]
    exact mk_signs (mk_itsD dw 41) d
theorem hmk_itsD (dw : List (List Tk)) : ∀ k c r, (itsD dw)[k]? = some (.sign c r) → (runR ((itsD dw).take k)).2.getLast? = some 40 := (mk_itsD dw 0).at (.inl rfl)
theorem tk_txt (x : Tk) : x.txt.length ≤ 3 := by cases x <;> simp [Tk.txt]
theorem rx_len (x : Tk) : x.rx.length ≤ 4 := by
  cases x with
  | star => simp [Tk.rx]
  | bare c => unfold Tk.rx escL; simp only; split <;> simp
  | boxed c => unfold Tk.rx boxL; simp only; split <;> simp
theorem flat_app (a b : List Tk) : flat (a ++ b) = flat a ++ flat b := by unfold flat; simp
theorem flat_le3 : ∀ d : List Tk, (flat d).length ≤ 3 * d.length
  | [] => Nat.le_refl _
  | x :: d => by
    have h := flat_le3 d
    have h2 := tk_txt x
    have e : flat (x :: d) = x.txt ++ flat d := by simp [flat]
    rw [e, List.length_append, List.length_cons]; omega
theorem flat_tsD : ∀ {dw : List (List Tk)}, OkD dw → (flat (tsD dw)).length ≤ 1 + 7 * dw.length
  | [], _ => by decide
  | d :: dw, h => by
    have e : tsD (d :: dw) = (.star :: d) ++ tsD dw := by unfold tsD; simp
    have h1 := flat_tsD h.tail
    have h2 := flat_le3 d
    have h3 := (h d (List.mem_cons_self ..)).2.1
    have e2 : flat (.star :: d) = [42] ++ flat d := by simp [flat, Tk.txt]
    rw [e, flat_app, e2, List.length_append, List.length_append, List.length_cons, List.length_cons]
    simp; omega
theorem rx_flat : ∀ d : List Tk, ((d.map Tk.rx).flatten).length ≤ 4 * d.length
  | [] => Nat.le_refl _
  | x :: d => by
    have h := rx_flat d
    have h2 := rx_len x
    rw [List.map_cons, List.flatten_cons, List.length_append, List.length_cons]; omega
theorem out_tsD : ∀ {dw : List (List Tk)}, OkD dw → (((gsD dw).map outL).flatten).length ≤ 15 * dw.length
  | [], _ => by decide
  | d :: dw, h => by
    have h1 := out_tsD h.tail
    have h2 := rx_flat d
    have h3 := (h d (List.mem_cons_self ..)).2.1
    have e : (gsD (d :: dw)).map outL = outL (d.map Tk.rx) :: (gsD dw).map outL := by simp [gsD]
    rw [e, List.flatten_cons, List.length_append, List.length_cons]
    have : (outL (d.map Tk.rx)).length = 7 + ((d.map Tk.rx).flatten).length := by unfold outL; simp; omega
    omega
end Mine
end
section
open PySem PySem.Spec PySem.Calls PyProof.Rows PySem.W
set_option maxHeartbeats 1000000
namespace Mine
noncomputable def walkV (src : List Nat) (strict : Bool) : List (List Nat) → Nat → Sum Str Nat
  | [], p => .inr p
  | x :: xs, p => match skipV src x p strict with
    | .inl y => .inl y
    | .inr np => walkV src strict xs (np + x.length)
noncomputable def gr (name : List Nat) : List (List Nat) → Nat → Option Nat
  | [], p => some p
  | x :: xs, p => match fnd x (name.drop p) with
    | none => none
    | some i => gr name xs (p + i + x.length)
theorem fnd_spec {x : List Nat} : ∀ {l : List Nat} {i : Nat}, fnd x l = some i → x <+: l.drop i ∧ ∀ k, k < i → ¬ x <+: l.drop k
  | [], i, h => by
    unfold fnd at h
    split at h
    · rename_i hp; cases h
      exact ⟨by simpa using List.isPrefixOf_iff_prefix.mp hp, fun k hk => absurd hk (Nat.not_lt_zero _)⟩
    · cases h
  | c :: l, i, h => by
    unfold fnd at h
    split at h
    · rename_i hp; cases h
      exact ⟨by simpa using List.isPrefixOf_iff_prefix.mp hp, fun k hk => absurd hk (Nat.not_lt_zero _)⟩
    · rename_i hp
      cases q : fnd x l with
      | none => rw [q] at h; cases h
      | some j =>
        rw [q] at h; cases h
        obtain ⟨h1, h2⟩ := fnd_spec q
        refine ⟨h1, fun k hk => ?_⟩
        cases k with
        | zero => exact fun e => hp (List.isPrefixOf_iff_prefix.mpr (by simpa using e))
        | succ k => exact h2 k (Nat.lt_of_succ_lt_succ hk)
theorem fnd_spec_none {x : List Nat} : ∀ {l : List Nat}, fnd x l = none → ∀ k, k ≤ l.length → ¬ x <+: l.drop k
  | [], h, k, hk => by
    unfold fnd at h
    split at h
    · cases h
    · rename_i hp
      have : k = 0 := by simpa using hk
      subst this
      exact fun e => hp (List.isPrefixOf_iff_prefix.mpr (by simpa using e))
  | c :: l, h, k, hk => by
    unfold fnd at h
    split at h
    · cases h
    · rename_i hp
      cases q : fnd x l with
      | some j => rw [q] at h; cases h
      | none =>
        cases k with
        | zero => exact fun e => hp (List.isPrefixOf_iff_prefix.mpr (by simpa using e))
        | succ k => exact fnd_spec_none q k (Nat.le_of_succ_le_succ hk)
theorem fnd_len {x l : List Nat} {i : Nat} (h : fnd x l = some i) : i + x.length ≤ l.length := by
  have h1 := fnd_le h
  have h2 := (fnd_spec h).1.length_le
  rw [List.length_drop] at h2
  omega
theorem pre_take {x l : List Nat} {k n : Nat} : x <+: (l.take n).drop k ↔ x <+: l.drop k ∧ (x = [] ∨ k + x.length ≤ n) := by
  rw [List.drop_take, List.prefix_take_iff]
  constructor
  · rintro ⟨h1, h2⟩
    refine ⟨h1, ?_⟩
    rcases Nat.lt_or_ge k n with q | q
    · right; rw [Nat.add_comm]; exact Nat.add_le_of_le_sub (Nat.le_of_lt q) h2
    · left
      exact List.eq_nil_of_length_eq_zero (Nat.le_zero.mp (Nat.sub_eq_zero_of_le q ▸ h2))
  · rintro ⟨h1, h2 | h2⟩
    · subst h2; exact ⟨h1, Nat.zero_le _⟩
    · exact ⟨h1, Nat.le_sub_of_add_le' h2⟩
theorem fnd_take {x l : List Nat} (hx : x ≠ []) (n : Nat) : fnd x (l.take n) = (fnd x l).filter fun i => decide (i + x.length ≤ n) := by
  cases h : fnd x l with
  | none =>
    refine fnd_none fun k hk hp => ?_
    exact fnd_spec_none h k (Nat.le_trans hk (List.length_take_le' ..)) (pre_take.mp hp).1
  | some i =>
    obtain ⟨h1, h2⟩ := fnd_spec h
    have h3 := fnd_len h
    by_cases q : i + x.length ≤ n
    · have e : (some i).filter (fun i => decide (i + x.length ≤ n)) = some i := by simp [q]
      rw [e]
      refine fnd_some (by rw [List.length_take]; exact Nat.le_min.mpr ⟨Nat.le_trans (Nat.le_add_right _ _) q, Nat.le_trans (Nat.le_add_right _ _) h3⟩) (pre_take.mpr ⟨h1, .inr q⟩) fun k hk hp => h2 k hk (pre_take.mp hp).1
    · have e : (some i).filter (fun i => decide (i + x.length ≤ n)) = none := by simp; omega
      rw [e]
      refine fnd_none fun k hk hp => ?_
      obtain ⟨p1, p2⟩ := pre_take.mp hp
      rcases p2 with p2 | p2
      · exact hx p2
      · exact h2 k (Nat.lt_of_add_lt_add_right (Nat.lt_of_le_of_lt p2 (Nat.not_le.mp q))) p1
theorem gr_le {name : List Nat} : ∀ {ws : List (List Nat)} {p e : Nat}, gr name ws p = some e → p ≤ e ∧ (p ≤ name.length → e ≤ name.length)
  | [], p, e, h => by cases h; exact ⟨Nat.le_refl _, fun h => h⟩
  | x :: xs, p, e, h => by
    unfold gr at h
    cases q : fnd x (name.drop p) with
    | none => rw [q] at h; cases h
    | some i =>
      rw [q] at h
      obtain ⟨h1, h2⟩ := gr_le h
      have h3 := fnd_len q
      rw [List.length_drop] at h3
      exact ⟨Nat.le_trans (Nat.le_add_right _ _) (Nat.le_trans (Nat.le_add_right _ _) h1), fun h => h2 (by rw [Nat.add_assoc]; exact Nat.add_le_of_le_sub' h h3)⟩
theorem gr_take {l : List Nat} {n : Nat} : ∀ {ws : List (List Nat)} {p : Nat}, (∀ x ∈ ws, x ≠ []) → p ≤ n → gr (l.take n) ws p = (gr l ws p).filter fun e => decide (e ≤ n)
  | [], p, _, hp => by
    show some p = if decide (p ≤ n) = true then some p else none
    rw [if_pos (by simpa using hp)]
  | x :: xs, p, hx, hp => by
    unfold gr
    rw [List.drop_take, fnd_take (hx x (List.mem_cons_self ..))]
    cases q : fnd x (l.drop p) with
    | none => rfl
    | some i =>
      by_cases z : i + x.length ≤ n - p
      · have e : (some i).filter (fun i => decide (i + x.length ≤ n - p)) = some i := by simp [z]
        rw [e]
        exact gr_take (fun y hy => hx y (List.mem_cons_of_mem _ hy)) (by rw [Nat.add_assoc]; exact Nat.add_le_of_le_sub' hp z)
      · have e : (some i).filter (fun i => decide (i + x.length ≤ n - p)) = none := by simp; omega
        rw [e]
        dsimp only
        cases u : gr l xs (p + i + x.length) with
        | none => rfl
        | some f =>
          have := (gr_le u).1
          have hf : ¬ f ≤ n := fun w => z (Nat.le_sub_of_add_le' (by rw [← Nat.add_assoc]; exact Nat.le_trans this w))
          show none = if decide (f ≤ n) = true then some f else none
          rw [if_neg (by simpa using hf)]
noncomputable def cutL (r : List Nat) : List Nat := r.takeWhile (· != 35)
theorem cut_take (r : List Nat) : cutL r = r.take (cutL r).length := by
  have h := List.takeWhile_append_dropWhile (p := (· != 35)) (l := r)
  have h2 : (cutL r ++ r.dropWhile (· != 35)).take (cutL r).length = cutL r := List.take_left
  rw [show cutL r ++ r.dropWhile (· != 35) = r from h] at h2
  exact h2.symm
theorem cut_le (r : List Nat) : (cutL r).length ≤ r.length := by
  rw [cut_take r, List.length_take]; omega
theorem cut_no (r : List Nat) : 35 ∉ cutL r := by
  have : ∀ l : List Nat, 35 ∉ l.takeWhile (· != 35) := by
    intro l
    induction l with
    | nil => simp
    | cons c l ih =>
      rw [List.takeWhile_cons]
      split
      · rename_i hc
        intro hm
        rcases List.mem_cons.mp hm with q | q
        · rw [← q] at hc; simp at hc
        · exact ih q
      · simp
  exact this r
theorem cut_at {r : List Nat} (h : (cutL r).length < r.length) : r[(cutL r).length]? = some 35 := by
  have h1 : r.dropWhile (· != 35) = r.drop (cutL r).length := by
    have h := List.takeWhile_append_dropWhile (p := (· != 35)) (l := r)
    have h2 : (cutL r ++ r.dropWhile (· != 35)).drop (cutL r).length = r.dropWhile (· != 35) := List.drop_left
    rw [show cutL r ++ r.dropWhile (· != 35) = r from h] at h2
    exact h2.symm
  have h2 : r.drop (cutL r).length ≠ [] := by
    intro q
    have := congrArg List.length q
    rw [List.length_drop] at this
    simp at this; omega
  have h3 := List.head_dropWhile_not (p := (· != 35)) (l := r) (by rw [h1]; exact h2)
  have h4 : (r.drop (cutL r).length).head? = some 35 := by
    rw [← h1, List.head?_eq_some_head (by rw [h1]; exact h2)]
    simp at h3
    rw [h3]
  rw [List.head?_drop] at h4
  exact h4
theorem cut_lt {r : List Nat} {k : Nat} (h : k < (cutL r).length) : ∃ c, r[k]? = some c ∧ c ≠ 35 := by
  have hk : k < r.length := Nat.lt_of_lt_of_le h (cut_le r)
  refine ⟨r[k], List.getElem?_eq_getElem hk, fun q => cut_no r ?_⟩
  rw [cut_take r, ← q]
  exact List.mem_take_iff_getElem.mpr ⟨k, by omega, rfl⟩
theorem fnd_beyond {r x : List Nat} {p i : Nat} (hx : x ≠ []) (h35 : 35 ∉ x) (hp : p ≤ (cutL r).length) (h : fnd x (r.drop p) = some i) : (p + i + x.length ≤ (cutL r).length) ∨ ((cutL r).length < p + i ∧ (cutL r).length < r.length) := by
  have h1 := fnd_spec h
  have h2 := fnd_len h
  rw [List.length_drop] at h2
  have hxl : 1 ≤ x.length := by cases x with | nil => exact absurd rfl hx | cons _ _ => simp
  by_cases q : p + i + x.length ≤ (cutL r).length
  · exact .inl q
  · right
    have hlt : (cutL r).length < r.length := Nat.lt_of_lt_of_le (Nat.not_le.mp q) (pl3 hxl h2)
    refine ⟨?_, hlt⟩
    rcases Nat.lt_or_ge (cutL r).length (p + i) with z | z
    · exact z
    · exfalso
      have hc := cut_at hlt
      obtain ⟨y, hy⟩ := h1.1
      rw [List.drop_drop] at hy
      have : r[(cutL r).length]? = x[(cutL r).length - (p + i)]? := by
        have e : (r.drop (p + i))[(cutL r).length - (p + i)]? = r[(cutL r).length]? := by
          rw [List.getElem?_drop, Nat.add_sub_of_le z]
        rw [← e, ← hy, List.getElem?_append_left (Nat.sub_lt_left_of_lt_add z (Nat.not_le.mp q))]
      rw [hc] at this
      exact h35 (List.mem_of_getElem? this.symm)
theorem has35 {r : List Nat} {p n : Nat} (hp : p ≤ (cutL r).length) : ((r.take n).drop p).contains 35 = decide ((cutL r).length < n ∧ (cutL r).length < r.length) := by
  by_cases h : (cutL r).length < n ∧ (cutL r).length < r.length
  · rw [decide_eq_true h]
    have hc := cut_at h.2
    have : ((r.take n).drop p)[(cutL r).length - p]? = some 35 := by
      rw [List.getElem?_drop, show p + ((cutL r).length - p) = (cutL r).length by omega, List.getElem?_take, if_pos h.1, hc]
    simpa using List.mem_of_getElem? this
  · rw [decide_eq_false h]
    have : 35 ∉ (r.take n).drop p := by
      intro hm
      have hm := List.mem_of_mem_drop hm
      refine cut_no r ?_
      rw [cut_take r]
      by_cases z : (cutL r).length < r.length
      · have : n ≤ (cutL r).length := by omega
        rw [show r.take n = (r.take (cutL r).length).take n by rw [List.take_take, Nat.min_eq_left this]] at hm
        exact List.mem_of_mem_take hm
      · rw [List.take_of_length_le (by omega)]
        exact List.mem_of_mem_take hm
    simpa using this
theorem idx35 {r : List Nat} {p n : Nat} (hp : p ≤ (cutL r).length) (h : (cutL r).length < n ∧ (cutL r).length < r.length) : ((r.take n).drop p).idxOf 35 = (cutL r).length - p := by
  have hc := cut_at h.2
  have hs : (r.take n).drop p = (cutL r).drop p ++ 35 :: ((r.take n).drop ((cutL r).length + 1)) := by
    have e1 : r.take n = cutL r ++ (r.take n).drop (cutL r).length := by
      conv => lhs; rw [← List.take_append_drop (cutL r).length (r.take n)]
      rw [List.take_take, Nat.min_eq_left (Nat.le_of_lt h.1), ← cut_take]
    have hlt : (cutL r).length < (r.take n).length := by rw [List.length_take]; omega
    have e2 : (r.take n).drop (cutL r).length = 35 :: (r.take n).drop ((cutL r).length + 1) := by
      rw [List.drop_eq_getElem_cons hlt]
      congr 1
      have : (r.take n)[(cutL r).length]? = some 35 := by rw [List.getElem?_take, if_pos h.1, hc]
      rw [List.getElem?_eq_getElem hlt] at this
      exact Option.some.inj this
    conv => lhs; rw [e1]
    rw [List.drop_append_of_le_length hp, e2]
  have key : ∀ (a b : List Nat), 35 ∉ a → (a ++ 35 :: b).idxOf 35 = a.length := by
    intro a b ha
    induction a with
    | nil => simp
    | cons c a ih =>
      have hc : c ≠ 35 := fun q => ha (by rw [q]; exact List.mem_cons_self ..)
      rw [List.cons_append, List.idxOf_cons, ih fun hm => ha (List.mem_cons_of_mem _ hm)]
      rw [show (c == 35) = false by simpa using hc]
      rfl
  rw [hs, key _ _ (fun hm => cut_no r (List.mem_of_mem_drop hm)), List.length_drop]
noncomputable def takesB (name : List Nat) (ws : List (List Nat)) : Bool := (gr name ws 0).isSome
noncomputable def fitsN (r : List Nat) (ws : List (List Nat)) : Nat := ((List.range ws.length).filter fun k => takesB (cutL r) (ws.take (k + 1))).length
noncomputable def foundS (n : Nat) : Str := Str.ofString "Found invalid character '#' (at line 1, column " ++ Str.ofString (toString ((n : Int) + 2)) ++ Str.ofString ")"
noncomputable def expS (x : List Nat) : Str := Str.ofString "Expected " ++ reprText (S x) ++ Str.ofString " (at end of document)"
noncomputable def toldV (r : List Nat) (ws : List (List Nat)) (strict : Bool) : Sum Str Nat :=
  if fitsN r ws = ws.length then .inr ((gr r ws 0).getD 0 + 1)
  else if cutL r ≠ r ∧ (strict = false ∨ takesB r (ws.take (fitsN r ws + 1)) = true) then .inl (foundS (cutL r).length)
  else if strict then .inl (expS (ws.getD (fitsN r ws) []))
  else .inr (r.length + 1 + (ws.getLast?.getD []).length)
theorem str_assoc (a b c : Str) : a ++ b ++ c = a ++ (b ++ c) := by
  rw [S_of a, S_of b, S_of c, S_app, S_app, S_app, S_app, List.append_assoc]
theorem found_eq (n c : Nat) (h : c < n) : errMsg (Str.empty ++ Str.ofString "Found invalid character " ++ reprText (S [35])) (n + 1) ((c + 1 : Nat) : Int) = foundS c := by
  rw [errMsg, sufx, if_pos (by omega), foundS, show ((c + 1 : Nat) : Int) + 1 = (c : Int) + 2 by omega]
  generalize Str.ofString (toString ((c : Int) + 2)) = X
  have e : ∀ a b d f : Str, a = b → a ++ X ++ d = b ++ X ++ d := fun a b d f q => by rw [q]
  have e2 : Str.empty ++ (Str.empty ++ Str.ofString "Found invalid character " ++ reprText (S [35])) ++ Str.ofString " (at " ++ (Str.empty ++ Str.ofString "line " ++ Str.ofString (toString ((0 : Int) + 1)) ++ Str.ofString ", column ") = Str.ofString "Found invalid character '#' (at line 1, column " := by decide +kernel
  rw [← e2]
  simp only [str_assoc]
theorem exp_eq (n : Nat) (x : List Nat) : errMsg (Str.empty ++ Str.ofString "Expected " ++ reprText (S x)) n (n : Nat) = expS x := by
  rw [errMsg, sufx, if_neg (by omega), expS]
  generalize reprText (S x) = X
  have e1 : Str.empty ++ (Str.empty ++ Str.ofString "Expected ") = Str.ofString "Expected " := by decide +kernel
  have e2 : Str.ofString " (at " ++ (Str.ofString "end of document" ++ Str.ofString ")") = Str.ofString " (at end of document)" := by decide +kernel
  have e3 : ∀ y : Str, Str.empty ++ y = y := fun y => by rw [S_of y, show Str.empty = S [] from rfl, S_app]; rfl
  rw [← e2]
  simp only [str_assoc, e3]
theorem walk_end (r : List Nat) : ∀ (xs : List (List Nat)) (p l : Nat), r.length + 1 ≤ p → p = r.length + 1 + l → (∀ x ∈ xs, x ≠ []) → walkV (35 :: r) false xs p = .inr (r.length + 1 + ((xs.getLast?.map (·.length)).getD l))
  | [], p, l, _, hl, _ => by rw [hl]; rfl
  | x :: xs, p, l, hp, hl, hx => by
    have hd : (35 :: r).drop p = [] := List.drop_eq_nil_of_le (by simpa using hp)
    have hf : fnd x ((35 :: r).drop p) = none := by
      rw [hd]
      have := hx x (List.mem_cons_self ..)
      cases x with
      | nil => exact absurd rfl this
      | cons c x => rfl
    have hs : skipV (35 :: r) x p false = .inr (r.length + 1) := by
      rw [skipV, hf]
      show tailV (35 :: r) p (35 :: r).length = _
      rw [tailV, List.take_length, hd]
      rfl
    rw [walkV, hs]
    show walkV (35 :: r) false xs (r.length + 1 + x.length) = _
    rw [walk_end r xs _ x.length (by omega) rfl fun y hy => hx y (List.mem_cons_of_mem _ hy)]
    cases xs with
    | nil => rfl
    | cons y ys => rw [List.getLast?_cons_cons]; simp [List.getLast?_cons]
noncomputable def inC (r : List Nat) (ws : List (List Nat)) (q : Nat) : Prop := ∃ e, gr r ws q = some e ∧ e ≤ (cutL r).length
theorem tail_row (r : List Nat) (q j : Nat) (hq : q ≤ (cutL r).length) : tailV (35 :: r) (q + 1) (j + 1) = if (cutL r).length < j ∧ (cutL r).length < r.length then .inl (foundS (cutL r).length) else .inr (j + 1) := by
  rw [tailV]
  show (if ((r.take j).drop q).contains 35 = true then _ else _) = _
  rw [has35 hq]
  by_cases h : (cutL r).length < j ∧ (cutL r).length < r.length
  · rw [decide_eq_true h, if_pos rfl, if_pos h]
    have e := idx35 hq h
    have : ((35 :: r).take (j + 1)).drop (q + 1) = (r.take j).drop q := rfl
    rw [this, e, show q + 1 + ((cutL r).length - q) = (cutL r).length + 1 by omega]
    exact congrArg Sum.inl (found_eq _ _ h.2)
  · rw [decide_eq_false h, if_neg (by simp), if_neg h]
theorem walk_gen (r : List Nat) (strict : Bool) : ∀ (ws : List (List Nat)) (q : Nat), (∀ x ∈ ws, x ≠ [] ∧ 35 ∉ x) → q ≤ (cutL r).length →
    (∃ e, gr r ws q = some e ∧ e ≤ (cutL r).length ∧ walkV (35 :: r) strict ws (q + 1) = .inr (e + 1)) ∨
    ∃ k x, ws[k]? = some x ∧ inC r (ws.take k) q ∧ ¬ inC r (ws.take (k + 1)) q ∧
      walkV (35 :: r) strict ws (q + 1) = if (cutL r).length < r.length ∧ (strict = false ∨ (gr r (ws.take (k + 1)) q).isSome = true) then .inl (foundS (cutL r).length) else if strict then .inl (expS x) else .inr (r.length + 1 + (ws.getLast?.getD []).length)
  | [], q, _, hq => .inl ⟨q, rfl, hq, rfl⟩
  | x :: xs, q, hx, hq => by
    obtain ⟨hne, h35⟩ := hx x (List.mem_cons_self ..)
    have hd : (35 :: r).drop (q + 1) = r.drop q := rfl
    cases hf : fnd x (r.drop q) with
    | none =>
      refine .inr ⟨0, x, rfl, ⟨q, rfl, hq⟩, ?_, ?_⟩
      · rintro ⟨e, he, _⟩
        rw [show (x :: xs).take (0 + 1) = [x] from rfl, gr, hf] at he
        cases he
      · have hg : (gr r ((x :: xs).take (0 + 1)) q).isSome = false := by rw [show (x :: xs).take (0 + 1) = [x] from rfl, gr, hf]; rfl
        rw [hg]
        cases strict with
        | true =>
          have hs : skipV (35 :: r) x (q + 1) true = .inl (expS x) := by
            rw [skipV, hd, hf]
            exact congrArg Sum.inl (exp_eq _ _)
          rw [walkV, hs, if_neg (by simp), if_pos rfl]
        | false =>
          have hs : skipV (35 :: r) x (q + 1) false = tailV (35 :: r) (q + 1) (r.length + 1) := by
            rw [skipV, hd, hf]; rfl
          rw [walkV, hs, tail_row r q r.length hq]
          by_cases z : (cutL r).length < r.length
          · rw [if_pos ⟨z, z⟩, if_pos ⟨z, .inl rfl⟩]
          · have n1 : ¬ ((cutL r).length < r.length ∧ (cutL r).length < r.length) := fun h => z h.1
            have n2 : ¬ ((cutL r).length < r.length ∧ (false = false ∨ false = true)) := fun h => z h.1
            rw [if_neg n1, if_neg n2, if_neg (by simp)]
            show walkV (35 :: r) false xs (r.length + 1 + x.length) = _
            rw [walk_end r xs _ x.length (by omega) rfl fun y hy => (hx y (List.mem_cons_of_mem _ hy)).1]
            cases xs with
            | nil => rfl
            | cons y ys =>
              rw [List.getLast?_cons_cons]
              obtain ⟨z, hz⟩ : ∃ z, (y :: ys).getLast? = some z := ⟨_, List.getLast?_eq_some_getLast (List.cons_ne_nil _ _)⟩
              rw [hz]; rfl
    | some i =>
      have hfl := fnd_len hf
      rw [List.length_drop] at hfl
      rcases fnd_beyond hne h35 hq hf with hb | ⟨hb, hlt⟩
      · have hs : skipV (35 :: r) x (q + 1) strict = .inr (q + i + 1) := by
          rw [skipV, hd, hf]
          show tailV (35 :: r) (q + 1) (q + 1 + i) = _
          rw [show q + 1 + i = q + i + 1 by omega, tail_row r q (q + i) hq, if_neg (by omega)]
        have hw : walkV (35 :: r) strict (x :: xs) (q + 1) = walkV (35 :: r) strict xs (q + i + x.length + 1) := by
          rw [walkV, hs]
          show walkV _ _ _ (q + i + 1 + x.length) = _
          rw [show q + i + 1 + x.length = q + i + x.length + 1 by omega]
        have hg : ∀ ys, gr r (x :: ys) q = gr r ys (q + i + x.length) := fun ys => by rw [gr, hf]
        rcases walk_gen r strict xs (q + i + x.length) (fun y hy => hx y (List.mem_cons_of_mem _ hy)) hb with ⟨e, h1, h2, h3⟩ | ⟨k, y, h1, h2, h3, h4⟩
        · exact .inl ⟨e, by rw [hg, h1], h2, by rw [hw, h3]⟩
        · refine .inr ⟨k + 1, y, by simpa using h1, ?_, ?_, ?_⟩
          · obtain ⟨e, he⟩ := h2
            exact ⟨e, by rw [List.take_succ_cons, hg]; exact he⟩
          · rintro ⟨e, he⟩
            exact h3 ⟨e, by rw [List.take_succ_cons, hg] at he; exact he⟩
          · rw [hw, h4, List.take_succ_cons, hg]
            have hl : ((x :: xs).getLast?.getD []).length = (xs.getLast?.getD []).length := by
              cases xs with
              | nil => simp at h1
              | cons z zs => rw [List.getLast?_cons_cons]
            rw [hl]
      · have hn : ¬ q + i + x.length ≤ (cutL r).length := by
          have hxl : 1 ≤ x.length := by cases x with | nil => exact absurd rfl hne | cons _ _ => simp
          omega
        refine .inr ⟨0, x, rfl, ⟨q, rfl, hq⟩, ?_, ?_⟩
        · rintro ⟨e, he, hle⟩
          rw [show (x :: xs).take (0 + 1) = [x] from rfl, gr, hf] at he
          have he : some (q + i + x.length) = some e := he
          cases he
          exact hn hle
        · have hg : (gr r ((x :: xs).take (0 + 1)) q).isSome = true := by rw [show (x :: xs).take (0 + 1) = [x] from rfl, gr, hf]; rfl
          have hs : skipV (35 :: r) x (q + 1) strict = .inl (foundS (cutL r).length) := by
            rw [skipV, hd, hf]
            show tailV (35 :: r) (q + 1) (q + 1 + i) = _
            rw [show q + 1 + i = q + i + 1 by omega, tail_row r q (q + i) hq, if_pos ⟨hb, hlt⟩]
          rw [hg, if_pos ⟨hlt, .inr rfl⟩, walkV, hs]
theorem gr_prefix {r : List Nat} : ∀ {ws : List (List Nat)} {q e : Nat} (k : Nat), gr r ws q = some e → ∃ e', gr r (ws.take k) q = some e' ∧ e' ≤ e
  | [], q, e, k, h => ⟨e, by rw [List.take_nil]; exact h, Nat.le_refl _⟩
  | x :: xs, q, e, 0, h => ⟨q, rfl, (gr_le h).1⟩
  | x :: xs, q, e, k + 1, h => by
    rw [List.take_succ_cons]
    unfold gr at h ⊢
    cases hf : fnd x (r.drop q) with
    | none => rw [hf] at h; cases h
    | some i => rw [hf] at h; exact gr_prefix k h
theorem takes_cut {r : List Nat} {ws : List (List Nat)} (hx : ∀ x ∈ ws, x ≠ []) : takesB (cutL r) ws = true ↔ inC r ws 0 := by
  unfold takesB inC
  have := gr_take (l := r) (n := (cutL r).length) (ws := ws) (p := 0) hx (Nat.zero_le _)
  rw [← cut_take] at this
  rw [this]
  cases q : gr r ws 0 with
  | none => simp
  | some e => simp [Option.filter]
theorem inC_take {r : List Nat} {ws : List (List Nat)} {q : Nat} (k : Nat) (h : inC r ws q) : inC r (ws.take k) q := by
  obtain ⟨e, h1, h2⟩ := h
  obtain ⟨e', h3, h4⟩ := gr_prefix k h1
  exact ⟨e', h3, by omega⟩
theorem filter_lt : ∀ (n k : Nat), k ≤ n → ((List.range n).filter fun j => decide (j < k)).length = k
  | 0, k, h => by have : k = 0 := by omega
                  subst this; rfl
  | n + 1, k, h => by
    rw [List.range_succ, List.filter_append, List.length_append]
    rcases Nat.lt_or_ge n k with q | q
    · have : k = n + 1 := by omega
      subst this
      have e : ((List.range n).filter fun j => decide (j < n + 1)) = List.range n := List.filter_eq_self.mpr fun a ha => by
        have := List.mem_range.mp ha
        simp; omega
      rw [e]; simp
    · rw [filter_lt n k q]; simp; omega
theorem law_plain (r : List Nat) (ws : List (List Nat)) (strict : Bool) (hx : ∀ x ∈ ws, x ≠ [] ∧ 35 ∉ x) : walkV (35 :: r) strict ws 1 = toldV r ws strict := by
  have hne : ∀ k, ∀ x ∈ ws.take k, x ≠ [] := fun k x hm => (hx x (List.mem_of_mem_take hm)).1
  have hcr : (cutL r ≠ r) ↔ (cutL r).length < r.length := by
    constructor
    · intro h
      rcases Nat.lt_or_ge (cutL r).length r.length with q | q
      · exact q
      · exact absurd ((cut_take r).trans (List.take_of_length_le q)) h
    · intro h q; rw [q] at h; exact Nat.lt_irrefl _ h
  rcases walk_gen r strict ws 0 hx (Nat.zero_le _) with ⟨e, h1, h2, h3⟩ | ⟨k, x, h1, h2, h3, h4⟩
  · have hf : fitsN r ws = ws.length := by
      unfold fitsN
      rw [List.filter_eq_self.mpr fun j hj => (takes_cut (hne _)).mpr (inC_take _ ⟨e, h1, h2⟩), List.length_range]
    rw [h3, toldV, if_pos hf, h1]; rfl
  · have hk := (List.getElem?_eq_some_iff.mp h1).1
    have hj : ∀ j, takesB (cutL r) (ws.take (j + 1)) = decide (j < k) := by
      intro j
      rcases Nat.lt_or_ge j k with q | q
      · rw [decide_eq_true q, takes_cut (hne _)]
        have := inC_take (j + 1) h2
        rw [List.take_take, Nat.min_eq_left (by omega)] at this
        exact this
      · rw [decide_eq_false (by omega)]
        cases z : takesB (cutL r) (ws.take (j + 1)) with
        | false => rfl
        | true =>
          exfalso
          have := inC_take (k + 1) ((takes_cut (hne _)).mp z)
          rw [List.take_take, Nat.min_eq_left (by omega)] at this
          exact h3 this
    have hf : fitsN r ws = k := by
      unfold fitsN
      rw [List.filter_congr fun j _ => hj j, filter_lt _ _ (Nat.le_of_lt hk)]
    have hnk : ¬ fitsN r ws = ws.length := by rw [hf]; exact Nat.ne_of_lt hk
    rw [h4, toldV, if_neg hnk, hf]
    have e1 : ws.getD k [] = x := by rw [List.getD_eq_getElem?_getD, h1]; rfl
    rw [e1]
    simp only [hcr, takesB]
end Mine
end
section
open PySem PySem.Spec PySem.Calls PyProof.Rows PySem.W
set_option maxHeartbeats 1000000
namespace Mine
noncomputable def plK (name x : List Nat) (p : Nat) : Nat := match fnd x (name.drop p) with
  | some i => p + i
  | none => max p (name.length + 1 - x.length)
noncomputable def gpl (name : List Nat) : List (List Nat) → Nat → Nat
  | [], p => p
  | x :: xs, p => gpl name xs (plK name x p + x.length)
theorem plK_ge (name x : List Nat) (p : Nat) : p ≤ plK name x p := by
  unfold plK; split
  · exact Nat.le_add_right _ _
  · exact Nat.le_max_left _ _
theorem plK_le (name x : List Nat) (p M : Nat) (hp : p ≤ M) (hn : name.length + 1 ≤ M) : plK name x p ≤ M := by
  unfold plK; split
  · rename_i i h
    have := fnd_len h
    rw [List.length_drop] at this
    refine Nat.le_trans (Nat.add_le_add_left (Nat.le_trans (Nat.le_add_right _ _) this) p) ?_
    rcases Nat.le_total p name.length with h | h
    · rw [Nat.add_sub_of_le h]; exact Nat.le_of_succ_le hn
    · rw [Nat.sub_eq_zero_of_le h]; exact hp
  · exact Nat.max_le.mpr ⟨hp, Nat.le_trans (Nat.sub_le _ _) hn⟩
theorem piece_iff {name x : List Nat} {k : Nat} (h : k + x.length ≤ name.length) : (name.take (k + x.length)).drop k = x ↔ x <+: name.drop k := by
  rw [List.drop_take, Nat.add_sub_cancel_left]
  constructor
  · intro e; rw [← e]; exact List.take_prefix _ _
  · intro e; exact (List.prefix_iff_eq_take.mp e).symm
theorem plK_lt {name x : List Nat} {p k : Nat} (hx : x ≠ []) (hp : p ≤ k) (hk : k < plK name x p) : k + x.length ≤ name.length ∧ (name.take (k + x.length)).drop k ≠ x := by
  have hxl := one_le hx
  unfold plK at hk
  cases q : fnd x (name.drop p) with
  | some i =>
    rw [q] at hk
    have hk : k < p + i := hk
    have h1 := fnd_len q
    rw [List.length_drop] at h1
    have hl : k + x.length ≤ name.length := Nat.le_trans (Nat.add_le_add_right (Nat.le_of_lt hk) _) (pl3 hxl h1)
    refine ⟨hl, fun e => (fnd_spec q).2 (k - p) (Nat.sub_lt_left_of_lt_add hp hk) ?_⟩
    rw [List.drop_drop, Nat.add_sub_of_le hp]
    exact (piece_iff hl).mp e
  | none =>
    rw [q] at hk
    have hk : k < max p (name.length + 1 - x.length) := hk
    have hl : k + x.length ≤ name.length := Nat.le_of_lt_succ (Nat.add_lt_of_lt_sub (Nat.lt_of_not_le fun z => Nat.not_le.mpr hk (Nat.max_le.mpr ⟨hp, z⟩)))
    refine ⟨hl, fun e => fnd_spec_none q (k - p) (by rw [List.length_drop]; exact Nat.sub_le_sub_right (Nat.le_trans (Nat.le_add_right _ _) hl) p) ?_⟩
    rw [List.drop_drop, Nat.add_sub_of_le hp]
    exact (piece_iff hl).mp e
theorem plK_at {name x : List Nat} {p : Nat} (hx : x ≠ []) : name.length < plK name x p + x.length ∨ (plK name x p + x.length ≤ name.length ∧ (name.take (plK name x p + x.length)).drop (plK name x p) = x) := by
  unfold plK
  cases q : fnd x (name.drop p) with
  | some i =>
    right
    have h1 := fnd_len q
    rw [List.length_drop] at h1
    have hxl := one_le hx
    have hl : p + i + x.length ≤ name.length := pl3 hxl h1
    refine ⟨hl, (piece_iff hl).mpr ?_⟩
    have := (fnd_spec q).1
    rwa [List.drop_drop] at this
  | none => left; show name.length < max p (name.length + 1 - x.length) + x.length; exact mxlt
theorem gpl_ge (name : List Nat) : ∀ (ws : List (List Nat)) (p : Nat), p ≤ gpl name ws p
  | [], p => Nat.le_refl _
  | x :: xs, p => by
    have h1 := plK_ge name x p
    have h2 := gpl_ge name xs (plK name x p + x.length)
    exact Nat.le_trans h1 (Nat.le_trans (Nat.le_add_right _ _) h2)
theorem gpl_takes (name : List Nat) : ∀ (ws : List (List Nat)) (p : Nat), (∀ x ∈ ws, x ≠ []) → p ≤ name.length → (gpl name ws p ≤ name.length ↔ (gr name ws p).isSome = true)
  | [], p, _, hp => by simp [gpl, gr, hp]
  | x :: xs, p, hx, hp => by
    unfold gpl gr plK
    have hxl : 1 ≤ x.length := by
      have := hx x (List.mem_cons_self ..)
      cases x with | nil => exact absurd rfl this | cons _ _ => simp
    cases q : fnd x (name.drop p) with
    | some i =>
      have h1 := fnd_len q
      rw [List.length_drop] at h1
      exact gpl_takes name xs (p + i + x.length) (fun y hy => hx y (List.mem_cons_of_mem _ hy)) (pl3 hxl h1)
    | none =>
      have := gpl_ge name xs (max p (name.length + 1 - x.length) + x.length)
      simp only [Option.isSome_none, Bool.false_eq_true, iff_false]
      exact fun z => Nat.lt_irrefl _ (Nat.lt_of_lt_of_le mxlt (Nat.le_trans this z))
theorem takes_gpl (name : List Nat) (ws : List (List Nat)) (hx : ∀ x ∈ ws, x ≠ []) : takesB name ws = decide (gpl name ws 0 ≤ name.length) := by
  unfold takesB
  have := gpl_takes name ws 0 hx (Nat.zero_le _)
  by_cases h : gpl name ws 0 ≤ name.length
  · rw [decide_eq_true h, this.mp h]
  · rw [decide_eq_false h]
    cases q : (gr name ws 0).isSome with
    | false => rfl
    | true => exact absurd (this.mpr q) h
end Mine
end
section
open PySem PySem.Spec PySem.Calls PyProof.Rows PySem.W
set_option maxHeartbeats 8000000
namespace Mine
noncomputable def TestEnd (h₀ : Heap) (L : Addr) (s : Shared) (m : Str → Option Value) (news : List (Addr × Obj)) (c b : Bool) (s₂ : Shared) : Prop :=
  b = c ∧ ∃ h' tk, s₂ = { s with heap := h', toks := tk } ∧ Fr h₀ L h' m ∧ News h₀ L h' news
section
variable {prog : Program} {w : World} {A : Around} {E : Value → Shared → Prop} {Q : Flow → Shared → Prop} {s : Shared} {env : Env} {h₀ : Heap} {L : Addr}
theorem whileUpF {i : Str} {test : Expr} {body : List Stmt} {pos : Pos} {m : Str → Option Value} {news : List (Addr × Obj)} {k₀ K : Int} {t₀ : Tok}
    (F : Fr h₀ L s.heap m) (Nw : News h₀ L s.heap news) (hmi : m i = some (.int k₀ t₀)) (hK : k₀ ≤ K)
    (gtest : ∀ k t h₁ tk₁, k₀ ≤ k → k ≤ K → Fr h₀ L h₁ (bindM m i (some (.int k t))) → News h₀ L h₁ news →
      wpAny (model prog w) A (isTrue test env (eval test env)) (TestEnd h₀ L s (bindM m i (some (.int k t))) news (decide (k < K))) E { s with heap := h₁, toks := tk₁ })
    (gturn : ∀ k t h₁ tk₁, k₀ ≤ k → k < K → Fr h₀ L h₁ (bindM m i (some (.int k t))) → News h₀ L h₁ news →
      wpAny (model prog w) A (execs body env) (CntStep h₀ L s m i news (k + 1)) E { s with heap := h₁, toks := tk₁ })
    (done : ∀ t h' tk, Fr h₀ L h' (bindM m i (some (.int K t))) → News h₀ L h' news → Q .next { s with heap := h', toks := tk })
    (hE : PassesOwn (model prog w) A env E := by passes_own) :
    wpAny (model prog w) A (exec (.While test body [] pos) env) Q E s := by
  have hm0 : m = bindM m i (some (.int k₀ t₀)) := by rw [← hmi]; exact bindM_start m i
  refine While_inv (fun n m₁ news₁ => ∃ k t, k₀ ≤ k ∧ k ≤ K ∧ m₁ = bindM m i (some (.int k t)) ∧ news = news₁ ∧ n = (K - k).toNat)
    F Nw ⟨k₀, t₀, Int.le_refl _, hK, hm0, rfl, rfl⟩ ?_
  rintro n m₁ news₁ h₁ tk₁ F₁ N₁ ⟨k, t, hk, hkK, rfl, rfl, rfl⟩
  refine wpAny_mono (gtest k t h₁ tk₁ hk hkK F₁ N₁) (fun b s₂ h₂ => ?_) fun _ _ e => e
  obtain ⟨rfl, h', tk, rfl, F₂, N₂⟩ := h₂
  by_cases hlt : k < K
  · rw [decide_eq_true hlt, if_pos rfl]
    refine wpAny_mono (gturn k t h' tk hk hlt F₂ N₂) (fun f s₃ h₃ => ?_) fun _ _ e => e
    obtain ⟨rfl, h'', tk'', t', rfl, F₃, N₃⟩ := h₃
    exact WhileStep.intro F₃ N₃ (n' := (K - (k + 1)).toNat) (zturn hlt) ⟨k + 1, t', Int.le_trans hk (Int.le_of_lt (Int.lt_succ k)), Int.add_one_le_of_lt hlt, rfl, rfl, rfl⟩
  · rw [decide_eq_false hlt, if_neg (by simp)]
    obtain rfl : k = K := Int.le_antisymm hkK (Int.not_lt.mp hlt)
    exact done t h' tk F₂ N₂
end
end Mine
end
section
open PySem PySem.Spec PySem.Calls PyProof.Rows PySem.W PyProof.V
set_option maxHeartbeats 4000000
namespace Mine
section
variable {prog : Program} {w : World} {A : Around} {E : Value → Shared → Prop} {s : Shared} {env : Env} {h₀ : Heap} {target : Expr} {body : List Stmt} {Q : Flow → Shared → Prop}
theorem unr_mono {L : Addr} {s₁ s₂ : Shared} {its : List (Addr × Obj)} {r1 r2 : (Str → Option Value) → List (Addr × Obj) → Prop} {f : Flow} (hr : ∀ m n, r1 m n → r2 m n) (h : UnrPostW h₀ L s₁ its r1 Q f s₂) : UnrPostW h₀ L s₁ its r2 Q f s₂ := by
  have go : UnrEndW h₀ L s₁ its r1 s₂ → UnrEndW h₀ L s₁ its r2 s₂ := by
    rintro ⟨h', tk, m', news', e, F, N, o, r⟩
    exact ⟨h', tk, m', news', e, F, N, o, hr _ _ r⟩
  cases f with
  | ret v => exact h
  | brk => exact h
  | cont => exact go h
  | next => exact go h
theorem allObj_mono : ∀ {ws : List (Addr × String)} {k1 k2 : List (Addr × Obj) → Prop}, (∀ its, k1 its → k2 its) → AllObj ws k1 → AllObj ws k2
  | [], _, _, h, x => h _ x
  | w :: ws, k1, k2, h, x => fun o ho => allObj_mono (fun its => h ((w.1, o) :: its)) (x o ho)
theorem items_ind {ws : List (Addr × String)} {keep : List (Addr × Obj)} (Inv : List Itm → (Str → Option Value) → List (Addr × Obj) → Prop)
    (step : ∀ a r m news, Inv (a :: r) m news → ∀ v h tk, a.Is v h → Fr h₀ env.locals h m → AllObj ws (fun its => News h₀ env.locals h (its ++ news) →
      wpAny (model prog w) A (assign target env v) (fun _ s₂ => wpAny (model prog w) A (execs body env) (UnrPostW h₀ env.locals { s with heap := h, toks := tk } its (fun m' n' => SubL keep n' ∧ Inv r m' n') Q) E s₂) E { s with heap := h, toks := tk }))
    (done : ∀ m news, Inv [] m news → ∀ h tk, Fr h₀ env.locals h m → News h₀ env.locals h news → Q .next { s with heap := h, toks := tk }) :
    ∀ xs m news, Inv xs m news → ItemsRest prog w A E h₀ env target body Q s ws keep xs m news
  | [], m, news, h => done m news h
  | a :: r, m, news, h => fun v h' tk ha F => allObj_mono (fun its x N => wpAny_mono (x N) (fun _ s₂ y => wpAny_mono y (fun f s₃ z => unr_mono (fun m' n' q => ⟨q.1, items_ind Inv step done r m' n' q.2⟩) z) fun _ _ e => e) fun _ _ e => e) (step a r m news h v h' tk ha F)
noncomputable def enumS : Nat → List Nat → List Itm
  | _, [] => []
  | j, c :: l => .pairF (fun t => .int (j : Int) t) (.str (S [c])) :: enumS (j + 1) l
theorem enumS_length : ∀ (l : List Nat) (j : Nat), (enumS j l).length = l.length
  | [], _ => rfl
  | c :: l, j => by simp [enumS, enumS_length l]
theorem enumS_get : ∀ (l : List Nat) (j i : Nat) {c : Nat}, l[i]? = some c → (enumS j l)[i]? = some (.pairF (fun t => .int ((j + i : Nat) : Int) t) (.str (S [c])))
  | [], _, _, _, h => by simp at h
  | a :: l, j, 0, c, h => by
    have h : a = c := by simpa using h
    subst h; rfl
  | a :: l, j, i + 1, c, h => by
    have := enumS_get l (j + 1) i (c := c) (by simpa using h)
    rw [show j + 1 + i = j + (i + 1) by omega] at this
    simpa [enumS] using this
theorem ktu_enumS {elts : List Expr} {k : Nat} {pos : Pos} {l : List Nat} {tx : Tok} {m₀ : Str → Option Value} {news : List (Addr × Obj)}
    (hh : A.handled = none) (F : Fr h₀ env.locals s.heap m₀) (N : News h₀ env.locals s.heap news) (hasc : ∀ c ∈ l, c < 128)
    (rest₀ : ∀ I : Addr, (∀ p ∈ news, p.1 < I) → ItemsRest prog w A E h₀ env (.Tuple elts k pos) body Q s [(I + 1, "enumerate"), (I, "str_ascii_iterator")] [] (enumS 0 l) m₀ news) :
    wpAny (model prog w) A (call (.type "enumerate") [.str (S l) tx]) (fun xv s₁ => wpAny (model prog w) A (pyIter xv) (fun it s₂ => TurnsAt prog w A h₀ env (.Tuple elts k pos) body Q E it s₂) E s₁) E s := by
  have hLs : env.locals < s.heap.objs.size := F.ns.lt
  have hty : strIterType (S l) = "str_ascii_iterator" := by
    have : (S l).cps.all (· < 128) = true := by
      rw [Array.all_eq_true]
      intro i hi
      have hi' : i < l.length := by simpa using hi
      have : l[i] < 128 := hasc _ (List.getElem_mem hi')
      simpa using this
    unfold strIterType
    rw [if_pos this]
  refine call_enumerate_str fun h' hE hI hsz hk => ?_
  rw [hty] at hI
  refine wpAny_pyIter_enum hE ?_
  refine ktu_core (tk0 := s.toks) (keep := []) (KTurns.ofWalksU (WalksT.enumerateD (Draws.strAscii (A := A.in1) hh s.heap.objs.size (S l) tx) (s.heap.objs.size + 1) (Nat.succ_ne_self _) (by simp) (by simp)).toU) ?_ ?_ ?_ ?_ ?_ ?_ ?_ ?_ ?_ (F.keeps hk) (N.grown hk) trivial (rest₀ _ fun p hp => Heap.lt_size (N p hp).1)
  · rw [enumS_length]; simp
  · rintro i v h ⟨T, vals, rfl, ⟨t, x, ⟨c, u, hc, rfl⟩, rfl⟩, hT⟩
    refine ⟨_, enumS_get l 0 i (c := c) (by simpa using hc), T, t, .str (S [c]) u, rfl, ?_, ?_⟩
    · exact Flat.str _ _
    · show IsTup h T #[.int ((0 + i : Nat) : Int) t, _]
      rw [Nat.zero_add]
      exact hT
  · rintro i h ⟨⟨old, he⟩, ⟨oi, hoi, hic, _⟩⟩
    have he' : ∃ oe : Obj, h.get? (s.heap.objs.size + 1) = some oe ∧ oe.cls = .type "enumerate" := ⟨_, he, rfl⟩
    obtain ⟨oe, h1, h2⟩ := he'
    refine ⟨[(s.heap.objs.size + 1, oe), (s.heap.objs.size, oi)], ⟨⟨rfl, h2⟩, ⟨rfl, hic⟩, trivial⟩, fun p hp => ?_⟩
    rcases List.mem_cons.mp hp with rfl | hp
    · exact h1
    · rw [List.mem_singleton.mp hp]; exact hoi
  · intro b hb
    have hb' : b = s.heap.objs.size + 1 ∨ b = s.heap.objs.size := by simpa using hb
    rcases hb' with rfl | rfl
    · exact ⟨by simp, ktu_new F (Nat.le_add_right _ _)⟩
    · exact ⟨by simp, ktu_new F (Nat.le_refl _)⟩
  · intro b hb
    simpa using hb
  · intro b hb
    have hb' : b = s.heap.objs.size + 1 ∨ b = s.heap.objs.size := by simpa using hb
    rcases hb' with rfl | rfl
    · exact .inl (by simp)
    · exact .inl (by simp)
  · intro hI'
    have hb' : env.locals = s.heap.objs.size + 1 ∨ env.locals = s.heap.objs.size := by simpa using hI'
    rcases hb' with e | e
    · exact ktu_ne 1 hLs e
    · exact Nat.ne_of_lt hLs e
  · intro p hp hI'
    have hb' : p.1 = s.heap.objs.size + 1 ∨ p.1 = s.heap.objs.size := by simpa using hI'
    have hlp := Heap.lt_size (N p hp).1
    rcases hb' with e | e
    · exact ktu_ne 1 hlp e
    · exact Nat.ne_of_lt hlp e
  · exact ⟨⟨.none, hE⟩, hI⟩
end
theorem fr_oneR {b h : Heap} {L : Addr} {m : Str → Option Value} {x : Str} {v : Value} (F : Fr b L h m) (hx : m x = some v) : ∃ m0 : Str → Option Value, Fr b L h (fun z => if z = x then some v else m0 z) := by
  refine ⟨m, cast (congrArg (Fr b L h) (funext fun z => ?_)) F⟩
  split
  · subst z; exact hx
  · rfl
end Mine
end
section
open PySem PySem.Spec PySem.Calls PyProof.Rows PySem.W
set_option maxHeartbeats 4000000
namespace Mine
theorem kw25 : True := by
  (k_with "9exec While" => ((fail_if_success first | have := @Mine.e9s10 | fail); with_unfolding_all (first | with_reducible refine stopS3 ?_ | refine stopS3 ?_)))
  (k_with "9call builtin:len" => ((fail_if_success first | have := @Mine.e9s10 | fail); (with_reducible show wpAny _ _ (call (Value.builtin "len") [Value.str (S _) _]) _ _ _); (first | with_reducible refine r_len (by omega) ?_ | refine r_len (by omega) ?_); intro _ _))
  (k_with "9subscriptTail Name Slice str ref" => ((fail_if_success first | have := @Mine.e9s10 | fail); with_unfolding_all walk_at "nm"; (first | with_reducible refine rs_ss F' N' (by omega) (by omega) (by omega) ?_ | with_reducible refine rs_ns F' N' (by omega) (by omega) ?_ | with_reducible refine rs_sn F' N' (by omega) (by omega) ?_ | refine rs_ss F' N' (by omega) (by omega) (by omega) ?_ | refine rs_ns F' N' (by omega) (by omega) ?_ | refine rs_sn F' N' (by omega) (by omega) ?_); intro h' t' k' F' N'))
  (k_with "9compareOp NotEq str str" => ((fail_if_success first | have := @Mine.e9s10 | fail); with_unfolding_all first | with_reducible refine r_ne true (by assumption) ?_ | with_reducible refine r_ne false (by assumption) ?_ | with_reducible refine r_ne false rfl ?_ | refine r_ne true (by assumption) ?_ | refine r_ne false (by assumption) ?_ | refine r_ne false rfl ?_))
  (k_with "9compareOp Eq str str" => ((fail_if_success first | have := @Mine.e9s10 | fail); with_unfolding_all first | with_reducible refine r_eq true (by assumption) ?_ | with_reducible refine r_eq false (by assumption) ?_ | refine r_eq true (by assumption) ?_ | refine r_eq false (by assumption) ?_))
  trivial
theorem strs_cons {a : Itm} {r : List Itm} {vs : List Value} {ws : List (List Nat)} (h : a :: r = vs.map .val) (hv : StrsAre vs (ws.map S)) : Ex4 fun x ws' t vs' => a = .val (.str (S x) t) ∧ r = vs'.map .val ∧ ws = x :: ws' ∧ StrsAre vs' (ws'.map S) := by
  cases vs with
  | nil => cases h
  | cons v vs =>
    cases ws with
    | nil => cases hv
    | cons x ws =>
      cases hv with
      | cons _ t hv => injection h with h1 h2; exact ⟨x, ws, t, vs, h1, h2, rfl, hv⟩
theorem strs_nil {vs : List Value} {ws : List (List Nat)} (h : [] = vs.map Itm.val) (hv : StrsAre vs (ws.map S)) : ws = [] := by
  cases vs with
  | cons v vs => cases h
  | nil =>
    cases ws with
    | nil => rfl
    | cons x ws => cases hv
theorem clip_1 (n : Nat) : clipAt (n + 1) 1 = 1 := (clip_nat (n + 1) 1).trans (Nat.min_eq_left (Nat.succ_le_succ (Nat.zero_le n)))
theorem mid_take (a b : Value) (vs : List Value) : (((a :: vs) ++ [b]).drop ((some (1 : Int)).elim 0 (clipAt ((a :: vs) ++ [b]).length))).take ((some (-1 : Int)).elim ((a :: vs) ++ [b]).length (clipAt ((a :: vs) ++ [b]).length) - (some (1 : Int)).elim 0 (clipAt ((a :: vs) ++ [b]).length)) = vs := by
  have e : ((a :: vs) ++ [b]).length = vs.length + 1 + 1 := by simp
  rw [e]
  simp [clip_m1, clip_1]
structure BxT (P : Prop) : Prop where
  p : P
theorem stopT {α : Type} {M : Model} {A : Around} {x : Sem α} {Q : α → Shared → Prop} {E : Value → Shared → Prop} {s : Shared} (h : Hold (wpAny M A x Q E s)) : wpAny M A x Q E s := h
section
variable {w : World} {base h₀ : Heap} {outer : List Env} {L : Addr} {m : Str → Option Value} {env : Env} {news : List (Addr × Obj)}
  {hd : Option Value} {dp un : Nat} {gd : Option (List Code)} {s : Shared} {Q E : Value → Shared → Prop}
end
namespace EC_takesN
theorem kw26 : True := by
  (k_with "9exec For" => ((fail_if_success first | have := @Mine.e9s10 | fail); k_here; rename Fr _ _ _ _ => lF'; with_unfolding_all refine' For_turns lF' ?_; k_whole))
  (k_with "9subscriptTail Name Slice ref ref" => ((fail_if_success first | have := @Mine.e9s10 | fail); with_unfolding_all (first | with_reducible refine stopT ?_ | refine stopT ?_)))
  (k_with "9pyIter" => ((fail_if_success first | have := @Mine.e9s10 | fail); with_unfolding_all (first | with_reducible refine stopT ?_ | refine stopT ?_)))
  (k_with "9subscriptTail Name UnaryOp ref int" => ((fail_if_success first | have := @Mine.e9s10 | fail); with_unfolding_all (first | with_reducible refine bm_last (l := l) (vs := .str (S []) ta :: vs) (by k_asm) (by k_mem) ?_ | refine bm_last (l := l) (vs := .str (S []) ta :: vs) (by k_asm) (by k_mem) ?_)))
  trivial
noncomputable def Pk9 (w : World) (base : Heap) (h₀ : Heap) (outer : List Env) (L : Addr) (m : Str → Option Value) (env : Env) (news : List (Addr × Obj)) (dp : Nat) (un : Nat) (gd : Option (List Code)) (s : Shared) (Q : Value → Shared → Prop) (E : Value → Shared → Prop) (ws : List (List Nat)) (vs : List Value) (name : List Nat) (n : Nat) (l : Addr) (t0 : Tok) (ta : Tok) (tz : Tok) : Prop := ∀ (am : Amb w base h₀ L m env outer news s.heap) (hdp : dp < 500) (hws : ∀ x ∈ ws, x ≠ [] ∧ x.length ≤ 2) (hwl : ws.length ≤ 3) (hvs : StrsAre vs (ws.map S)) (hname : name.length ≤ 100) (hl : (l, W.listOf (List.toArray ((.str (S []) ta :: vs) ++ [.str (S []) tz])) n) ∈ news) (hret : ∀ h' tk, s.heap.StaysIn h' → Q (.bool (decide (gpl name ws 0 ≤ name.length))) { s with heap := h', toks := tk }),
    wpAny (MD w) (ar none dp un gd env outer) (call (.ref 126) [.ref l, .str (S name) t0]) Q E s
noncomputable def Pu9 (x : ((((((World) × (Heap)) × (Heap)) × (((List Env) × (Addr)) × (Str → Option Value))) × ((((Env) × (List (Addr × Obj))) × (Nat)) × ((Nat) × (Option (List Code))))) × (((((Shared) × (Value → Shared → Prop)) × (Value → Shared → Prop)) × (((List (List Nat)) × (List Value)) × (List Nat))) × ((((Nat) × (Addr)) × (Tok)) × ((Tok) × (Tok)))))) : Prop := Pk9 x.1.1.1.1.1 x.1.1.1.1.2 x.1.1.1.2 x.1.1.2.1.1 x.1.1.2.1.2 x.1.1.2.2 x.1.2.1.1.1 x.1.2.1.1.2 x.1.2.1.2 x.1.2.2.1 x.1.2.2.2 x.2.1.1.1.1 x.2.1.1.1.2 x.2.1.1.2 x.2.1.2.1.1 x.2.1.2.1.2 x.2.1.2.2 x.2.2.1.1.1 x.2.2.1.1.2 x.2.2.1.2 x.2.2.2.1 x.2.2.2.2
noncomputable def ck9 : {x : _ // Pu9 x → ∀ y, Pu9 y} := Classical.choice (drink (by repeat (first | exact neS | exact neW | exact neA | refine ne2 ?_ ?_ | exact ⟨default⟩ | exact ⟨fun _ _ => True⟩ | exact ⟨fun _ => True⟩ | exact ⟨fun _ => default⟩ | exact ⟨fun _ _ => default⟩)))
noncomputable def w : World := ck9.1.1.1.1.1.1
noncomputable def base : Heap := ck9.1.1.1.1.1.2
noncomputable def h₀ : Heap := ck9.1.1.1.1.2
noncomputable def outer : List Env := ck9.1.1.1.2.1.1
noncomputable def L : Addr := ck9.1.1.1.2.1.2
noncomputable def m : Str → Option Value := ck9.1.1.1.2.2
noncomputable def env : Env := ck9.1.1.2.1.1.1
noncomputable def news : List (Addr × Obj) := ck9.1.1.2.1.1.2
noncomputable def dp : Nat := ck9.1.1.2.1.2
noncomputable def un : Nat := ck9.1.1.2.2.1
noncomputable def gd : Option (List Code) := ck9.1.1.2.2.2
noncomputable def s : Shared := ck9.1.2.1.1.1.1
noncomputable def Q : Value → Shared → Prop := ck9.1.2.1.1.1.2
noncomputable def E : Value → Shared → Prop := ck9.1.2.1.1.2
noncomputable def ws : List (List Nat) := ck9.1.2.1.2.1.1
noncomputable def vs : List Value := ck9.1.2.1.2.1.2
noncomputable def name : List Nat := ck9.1.2.1.2.2
noncomputable def n : Nat := ck9.1.2.2.1.1.1
noncomputable def l : Addr := ck9.1.2.2.1.1.2
noncomputable def t0 : Tok := ck9.1.2.2.1.2
noncomputable def ta : Tok := ck9.1.2.2.2.1
noncomputable def tz : Tok := ck9.1.2.2.2.2
theorem kk9 : Pk9 w base h₀ outer L m env news dp un gd s Q E ws vs name n l t0 ta tz := by
  intro am hdp hws hwl hvs hname hl hret
  have htb : ∀ p ∈ ([(l, W.listOf (List.toArray ((.str (S []) ta :: vs) ++ [.str (S []) tz])) n)] : List (Addr × Obj)), p ∈ news := List.forall_mem_cons.mpr ⟨hl, List.forall_mem_nil _⟩
  have mk9 : Clm := ⟨trivial⟩
  obtain ⟨⟨A₀, B⟩, F, X, N, ⟨p, loose, mean, mg, mb, T⟩, hf, hke⟩ := am
  have XX := Frag.In.keeps X (Fr.keep F)
  have hK : (fun (_ : OpenLaw) (_ : Params → Frag) => True) PySem.Challenge.rw_rx0047_01 Mine.hd0.heap_1 := by (k_fill; trivial)
  refine' wpAny_call (enter (binds := [(Str.ofString "rows", .ref l), (Str.ofString "name", .str (S name) t0)]) B F N htb (Top.nolimit T) rfl hf hke ?ho_e14 ?hd_e14 ?hcd_e14 ?hroom_e14 ?hbind_e14 ?hloc_e14 ?h_e14 ?hcell_e14 ?hco_e14 ?hgen_e14 ?hk_e14)
  (case ho_e14 => exact XX _ _ (by k_is))
  (case hd_e14 => exact rfl)
  (case hcd_e14 => exact codeRec_of XX (by k_is))
  (case hroom_e14 => exact Nat.lt_of_lt_of_le hdp (by decide))
  (case hbind_e14 => first | exact BindsTo.of_eq rfl | exact binds_K XX rfl (by k_is) rfl rfl rfl)
  (case hloc_e14 => exact locs rfl)
  (case hcell_e14 => decide)
  (case hco_e14 => exact rfl)
  (case hgen_e14 => exact rfl)
  (case hk_e14 => exact rfl)
  intro g L' h₁ tk₁ hg F' N' B' st l1
  have X' := Frag.In.keeps X st
  have T' := Top.keeps T st
  (try k_lt l1)
  (try dsimp only)
  (try k_fold)
  clear hK
  (try revert T')
  (try revert X')
  (try revert l1)
  (try revert st)
  (try revert B')
  (try revert N')
  (try revert F')
  (try revert hg)
  (try revert hK)
  (try revert XX)
  (try revert hke)
  (try revert hf)
  (try revert T)
  (try revert N)
  (try revert X)
  (try revert F)
  (try revert B)
  (repeat ((rename (_ : Prop) => z9); (fail_if_success (have : Clm := z9)); revert z9))
  revert A₀ p loose mean mg mb g L' h₁ tk₁
  (refine no_implicit_lambda% (close10 12223 ?ne_e1 (R := ?R_e1) ((?nw_e1 : ∀ A₀ p loose mean mg mb g L' h₁ tk₁, ?R_e1 A₀ p loose mean mg mb g L' h₁ tk₁) (Mine.cl 12223 ?ne_e1 (un10 ?R_e1)).1.1.1.1 (Mine.cl 12223 ?ne_e1 (un10 ?R_e1)).1.1.1.2 (Mine.cl 12223 ?ne_e1 (un10 ?R_e1)).1.1.2 (Mine.cl 12223 ?ne_e1 (un10 ?R_e1)).1.2.1 (Mine.cl 12223 ?ne_e1 (un10 ?R_e1)).1.2.2 (Mine.cl 12223 ?ne_e1 (un10 ?R_e1)).2.1.1.1 (Mine.cl 12223 ?ne_e1 (un10 ?R_e1)).2.1.1.2 (Mine.cl 12223 ?ne_e1 (un10 ?R_e1)).2.1.2 (Mine.cl 12223 ?ne_e1 (un10 ?R_e1)).2.2.1 (Mine.cl 12223 ?ne_e1 (un10 ?R_e1)).2.2.2)))
  (case ne_e1 => repeat (first | exact ⟨default⟩ | exact neS | exact neW | exact neA | refine ne2 ?_ ?_))
  intro A₀ p loose mean mg mb g L' h₁ tk₁
  (set_option tactic.hygienic false in intros)
  have mk9 : Clm := ⟨trivial⟩
  have fo9 : FoldOn := ⟨trivial⟩
  have hvl : vs.length ≤ 3 := by rw [hvs.length, List.length_map]; exact hwl
  k_steps
  unfold Hold
  walk_at "nm"
  refine r_lslice (vs := (.str (S []) ta :: vs) ++ [.str (S []) tz]) F' N' (by k_mem) (.int _ _) (.int _ _) (by simp; omega) (mid_take _ _ _) ?_
  intro D h' F' N' l1
  (try k_lt l1)
  k_steps
  unfold Hold
  walk_at "nm"
  (rename Fr _ _ _ _ => F')
  (try dsimp +zetaDelta only at F')
  refine iter_listTurns rfl F' N' (.head _) rfl rfl fun I hI => ?_
  k_lt hI
  let I1z : List Itm → (Str → Option Value) → List (Addr × Obj) → Prop := fun xs m2 news2 => BxT ((∀ p ∈ [(D, W.listOf (List.toArray vs) 0), (l, W.listOf (List.toArray ((.str (S []) ta :: vs) ++ [.str (S []) tz])) n)], p ∈ news2) ∧ Ex4 fun (vs' : List Value) (ws' : List (List Nat)) (p : Nat) (t : Tok) => xs = vs'.map .val ∧ StrsAre vs' (ws'.map S) ∧ (∀ x ∈ ws', x ≠ [] ∧ x.length ≤ 2) ∧ ws'.length ≤ 3 ∧ p + 2 * ws'.length ≤ 107 ∧ gpl name ws' p = gpl name ws 0 ∧ (∀ q ∈ [(Str.ofString "place", Value.int (p : Nat) t)], m2 q.1 = some q.2) ∧ (∀ z, (∀ q ∈ [(Str.ofString "place", Value.int (p : Nat) t)], z ≠ q.1) → [Str.ofString "row"].contains z = false → m2 z = List.lookup z [(Str.ofString "name", Value.str (S name) t0), (Str.ofString "rows", Value.ref l)]))
  refine items_ind I1z ?step ?done _ _ _ ?start
  case start =>
    exact BxT.mk ⟨fun p hp => hp, vs, ws, 0, _, rfl, hvs, hws, hwl, by omega, rfl, List.forall_mem_cons.mpr ⟨rfl, List.forall_mem_nil _⟩, fun z hz _ => if_neg (hz _ (List.mem_cons_self ..))⟩
  case step =>
    clear F' N'
    intro a9 r9 m2 news2 hI
    refine gfold ?_
    intro G9
    obtain ⟨⟨hsub, vs', ws0, p, t, hxs, hvs', hws', hwl', hp, hg9, g1, g2⟩⟩ := hI
    obtain ⟨x, ws', tx, vs'', hy1, hy2, hy3, hvs''⟩ := strs_cons hxs hvs'
    clear hxs hvs'
    subst hy3
    obtain ⟨hx, hxl⟩ := hws' x (List.mem_cons_self ..)
    have hws9 : ∀ x ∈ ws', x ≠ [] ∧ x.length ≤ 2 := fun y hy => hws' y (List.mem_cons_of_mem _ hy)
    clear hws'
    have hp9 : p + 2 * ws'.length + 2 ≤ 107 := by simp at hp; omega
    have hw9 : ws'.length ≤ 2 := by simp at hwl'; omega
    clear hp hwl'
    intro v2 h2 tk2 ha2 F2
    subst hy1 hy2
    have ha2 : v2 = _ := ha2
    subst ha2
    intro o1 q1 N2
    dsimp only at q1
    have F' := ksw_fr g1 g2 F2
    have N' : News g L' h2 ((I, o1) :: [(D, W.listOf (List.toArray vs) 0), (l, W.listOf (List.toArray ((.str (S []) ta :: vs) ++ [.str (S []) tz])) n)]) := cb_drop N2 (List.forall_mem_cons.mpr ⟨.head _, fun p hp => List.mem_append_right _ (hsub p hp)⟩)
    dsimp only [kstB] at F'
    clear N2 F2 hsub
    k_steps
    unfold Hold
    walk_at "nm"
    have hge1 := plK_ge name x p
    have hle1 := plK_le name x p (105 - 2 * ws'.length) (by omega) (by omega)
    obtain ⟨K1, hK1⟩ : ∃ K, plK name x p = K := ⟨_, rfl⟩
    rw [hK1] at hge1 hle1
    refine whileUpF (i := Str.ofString "place") (k₀ := ((p : Nat) : Int)) (K := (K1 : Int)) F' N' rfl (by omega) ?gtest1 ?gturn1 ?done1
    case gtest1 =>
      clear F' N'
      intro k tk h₁ tk₁ hk1 hk2 F' N'
      have hk0 : k = (k.toNat : Int) := by omega
      rcases Int.lt_or_le k K1 with hlt | hlt
      · obtain ⟨q1, q2⟩ := plK_lt (name := name) (k := k.toNat) hx (show p ≤ k.toNat by omega) (by rw [hK1]; omega)
        have q3 : k + (x.length : Int) ≤ name.length := by omega
        have q4 : ((S ((name.take (k + (x.length : Int)).toNat).drop k.toNat)).cps.toList != (S x).cps.toList) = true := by
          rw [show (k + (x.length : Int)).toNat = k.toNat + x.length by omega]
          simpa using q2
        rw [show decide (k < K1) = true by simpa using hlt]
        k_steps
        walk_at "nm"
        exact ⟨rfl, _, _, rfl, F', N'⟩
      · obtain rfl : k = K1 := by omega
        rw [show decide ((K1 : Int) < K1) = false by simp]
        rcases plK_at (name := name) (p := p) hx with q1 | ⟨q1, q2⟩
        · rw [hK1] at q1
          have q3 : ¬ ((K1 : Int) + (x.length : Int) ≤ name.length) := by omega
          k_steps
          walk_at "nm"
          exact ⟨rfl, _, _, rfl, F', N'⟩
        · rw [hK1] at q1 q2
          have q3 : (K1 : Int) + (x.length : Int) ≤ name.length := by omega
          have q4 : ((S ((name.take ((K1 : Int) + (x.length : Int)).toNat).drop (K1 : Int).toNat)).cps.toList != (S x).cps.toList) = false := by
            rw [show ((K1 : Int) + (x.length : Int)).toNat = K1 + x.length by omega, show (K1 : Int).toNat = K1 from rfl]
            show ((name.take (K1 + x.length)).drop K1 != x) = false
            rw [q2]; simp
          k_steps
          walk_at "nm"
          exact ⟨rfl, _, _, rfl, F', N'⟩
    case gturn1 =>
      clear F' N'
      intro k tk h₁ tk₁ hk1 hk2 F' N'
      k_steps
    clear F' N'
    intro t3 h3 tk3 F' N'
    k_steps
    walk_at "nm"
    refine BxT.mk ⟨(by first | exact fun p hp => hp | (intro p hp; exact .tail _ hp) | (intro p hp; exact .tail _ (.tail _ hp)) | (intro p hp; exact .tail _ (.tail _ (.tail _ hp)))), vs'', ws', K1 + x.length, _, rfl, hvs'', hws9, by omega, by omega, ?_, List.forall_mem_cons.mpr ⟨rfl, List.forall_mem_nil _⟩, ?_⟩
    · rw [← hg9, ← hK1]; rfl
    · intro z h2 h3
      dsimp +zetaDelta only
      simp only [List.forall_mem_cons, List.not_mem_nil, false_implies, implies_true, and_true, ne_eq] at h2
      simp only [List.contains_cons, List.contains_nil, Bool.or_false, Bool.or_eq_false_iff, beq_eq_false_iff_ne, ne_eq] at h3
      simp [bindM, h2, h3]
  case done =>
    clear F' N'
    intro m2 news2 hI
    refine gfold ?_
    intro G9
    obtain ⟨⟨hsub, vs', ws', p, t, hxs, hvs', hws', hwl', hp, hg9, g1, g2⟩⟩ := hI
    obtain rfl := strs_nil hxs hvs'
    clear hxs hvs' hws' hwl'
    intro h2 tk2 F2 N2
    have F' := ksw_fr g1 g2 F2
    have N' := cb_drop N2 hsub
    dsimp only [kstB] at F'
    clear N2 F2 hsub
    have hgp : gpl name ws 0 = p := hg9.symm
    have hv : ((p : Int) ≤ (name.length : Int) - (([] : List Nat).length : Int)) ↔ gpl name ws 0 ≤ name.length := by
      rw [hgp]; simp only [List.length_nil]; omega
    k_steps
    · (try dsimp only)
      walk_at "nm"
      have hs := stays hg N htb F' N' (by repeat (first | exact List.forall_mem_nil _ | refine List.forall_mem_cons.mpr ⟨by k_mem, ?_⟩))
      have hd : List.drop ((name.length : Int) - (([] : List Nat).length : Int)).toNat name = [] := by simp
      have ha : (p : Int) ≤ (name.length : Int) - (([] : List Nat).length : Int) := by assumption
      have e : decide (gpl name ws 0 ≤ name.length) = true := decide_eq_true (hv.mp ha)
      rw [hd, show (S [] == S []) = decide (gpl name ws 0 ≤ name.length) by rw [e]; rfl]
      exact hret _ _ hs
    · (try dsimp only)
      walk_at "nm"
      have hs := stays hg N htb F' N' (by repeat (first | exact List.forall_mem_nil _ | refine List.forall_mem_cons.mpr ⟨by k_mem, ?_⟩))
      rw [decide_eq_decide.mpr hv]
      exact hret _ _ hs
end EC_takesN
section
variable {w : World} {base h₀ : Heap} {outer : List Env} {L : Addr} {m : Str → Option Value} {env : Env} {news : List (Addr × Obj)}
  {hd : Option Value} {dp un : Nat} {gd : Option (List Code)} {s : Shared} {Q E : Value → Shared → Prop}
theorem C_takesN {ws : List (List Nat)} {vs : List Value} {name : List Nat} {n : Nat} {l : Addr} {t0 ta tz : Tok} (am : Amb w base h₀ L m env outer news s.heap) (hdp : dp < 500) (hws : ∀ x ∈ ws, x ≠ [] ∧ x.length ≤ 2) (hwl : ws.length ≤ 3) (hvs : StrsAre vs (ws.map S)) (hname : name.length ≤ 100)
    (hl : (l, W.listOf (List.toArray ((.str (S []) ta :: vs) ++ [.str (S []) tz])) n) ∈ news)
    (hret : ∀ h' tk, s.heap.StaysIn h' → Q (.bool (decide (gpl name ws 0 ≤ name.length))) { s with heap := h', toks := tk }) :
    wpAny (MD w) (ar none dp un gd env outer) (call (.ref 126) [.ref l, .str (S name) t0]) Q E s :=
  EC_takesN.ck9.2 EC_takesN.kk9 (((((w, base), h₀), ((outer, L), m)), (((env, news), dp), (un, gd))), ((((s, Q), E), ((ws, vs), name)), (((n, l), t0), (ta, tz)))) am hdp hws hwl hvs hname hl hret
theorem C_takes1 {x name : List Nat} {n : Nat} {l : Addr} {t0 ta t1 tz : Tok} (am : Amb w base h₀ L m env outer news s.heap) (hdp : dp < 500) (hx : x ≠ []) (hxl : x.length ≤ 2) (hname : name.length ≤ 100)
    (hl : (l, W.listOf (List.toArray [.str (S []) ta, .str (S x) t1, .str (S []) tz]) n) ∈ news)
    (hret : ∀ h' tk, s.heap.StaysIn h' → Q (.bool (decide (gpl name [x] 0 ≤ name.length))) { s with heap := h', toks := tk }) :
    wpAny (MD w) (ar none dp un gd env outer) (call (.ref 126) [.ref l, .str (S name) t0]) Q E s :=
  C_takesN (ws := [x]) (vs := [.str (S x) t1]) am hdp (List.forall_mem_cons.mpr ⟨⟨hx, hxl⟩, List.forall_mem_nil _⟩) (Nat.le_of_ble_eq_true rfl) (.cons _ _ .nil) hname hl hret
theorem C_takes2 {x y name : List Nat} {n : Nat} {l : Addr} {t0 ta t1 t2 tz : Tok} (am : Amb w base h₀ L m env outer news s.heap) (hdp : dp < 500) (hx : x ≠ []) (hxl : x.length ≤ 2) (hy : y ≠ []) (hyl : y.length ≤ 2) (hname : name.length ≤ 100)
    (hl : (l, W.listOf (List.toArray [.str (S []) ta, .str (S x) t1, .str (S y) t2, .str (S []) tz]) n) ∈ news)
    (hret : ∀ h' tk, s.heap.StaysIn h' → Q (.bool (decide (gpl name [x, y] 0 ≤ name.length))) { s with heap := h', toks := tk }) :
    wpAny (MD w) (ar none dp un gd env outer) (call (.ref 126) [.ref l, .str (S name) t0]) Q E s :=
  C_takesN (ws := [x, y]) (vs := [.str (S x) t1, .str (S y) t2]) am hdp (List.forall_mem_cons.mpr ⟨⟨hx, hxl⟩, List.forall_mem_cons.mpr ⟨⟨hy, hyl⟩, List.forall_mem_nil _⟩⟩) (Nat.le_of_ble_eq_true rfl) (.cons _ _ (.cons _ _ .nil)) hname hl hret
theorem C_takes3 {x y z name : List Nat} {n : Nat} {l : Addr} {t0 ta t1 t2 t3 tz : Tok} (am : Amb w base h₀ L m env outer news s.heap) (hdp : dp < 500) (hx : x ≠ []) (hxl : x.length ≤ 2) (hy : y ≠ []) (hyl : y.length ≤ 2) (hz : z ≠ []) (hzl : z.length ≤ 2) (hname : name.length ≤ 100)
    (hl : (l, W.listOf (List.toArray [.str (S []) ta, .str (S x) t1, .str (S y) t2, .str (S z) t3, .str (S []) tz]) n) ∈ news)
    (hret : ∀ h' tk, s.heap.StaysIn h' → Q (.bool (decide (gpl name [x, y, z] 0 ≤ name.length))) { s with heap := h', toks := tk }) :
    wpAny (MD w) (ar none dp un gd env outer) (call (.ref 126) [.ref l, .str (S name) t0]) Q E s :=
  C_takesN (ws := [x, y, z]) (vs := [.str (S x) t1, .str (S y) t2, .str (S z) t3]) am hdp (List.forall_mem_cons.mpr ⟨⟨hx, hxl⟩, List.forall_mem_cons.mpr ⟨⟨hy, hyl⟩, List.forall_mem_cons.mpr ⟨⟨hz, hzl⟩, List.forall_mem_nil _⟩⟩⟩) (Nat.le_of_ble_eq_true rfl) (.cons _ _ (.cons _ _ (.cons _ _ .nil))) hname hl hret
end
end Mine
end
theorem Mine.e9s10 : True := trivial
section
open PySem PySem.Spec PySem.Calls PyProof.Rows PySem.W
set_option maxHeartbeats 4000000
namespace Mine
theorem tw_app : ∀ (a b : List Nat), 35 ∉ a → (a ++ 35 :: b).takeWhile (· != 35) = a
  | [], b, _ => by simp
  | c :: a, b, h => by
    have hc : c ≠ 35 := fun q => h (by rw [q]; exact List.mem_cons_self ..)
    rw [List.cons_append, List.takeWhile_cons, tw_app a b fun hm => h (List.mem_cons_of_mem _ hm)]
    simp [hc]
theorem tw_all : ∀ (a : List Nat), 35 ∉ a → a.takeWhile (· != 35) = a
  | [], _ => rfl
  | c :: a, h => by
    have hc : c ≠ 35 := fun q => h (by rw [q]; exact List.mem_cons_self ..)
    rw [List.takeWhile_cons, tw_all a fun hm => h (List.mem_cons_of_mem _ hm)]
    simp [hc]
theorem split_cut (r : List Nat) : ∃ rest, Txt.split (S r) (S [35]) = S (cutL r) :: rest := by
  have hj := StrLaws.join_split (S r) (S [35])
  have hf := StrLaws.split_free (S r) 35
  have hp := split_pos (S r) (S [35])
  have e35 : (⟨#[35]⟩ : Str) = S [35] := rfl
  rw [e35] at hf
  cases h : Txt.split (S r) (S [35]) with
  | nil => rw [h] at hp; simp at hp
  | cons p rest =>
    rw [h] at hj hf
    have h35 := hf p (List.mem_cons_self ..)
    refine ⟨rest, ?_⟩
    have key : p = S (cutL r) → p :: rest = S (cutL r) :: rest := fun e => by rw [e]
    refine key ?_
    cases rest with
    | nil =>
      have hj : p = S r := hj
      rw [hj] at h35 ⊢
      rw [show cutL r = r from tw_all r h35]
    | cons q rs =>
      have hj : p ++ S [35] ++ Str.join (S [35]) (q :: rs) = S r := hj
      rw [S_of p, S_of (Str.join (S [35]) (q :: rs)), S_app, S_app] at hj
      have hj := S_inj hj
      rw [← hj, List.append_assoc]
      rw [show cutL (p.cps.toList ++ ([35] ++ (Str.join (S [35]) (q :: rs)).cps.toList)) = p.cps.toList from tw_app _ _ h35]
section
variable {prog : Program} {w : World} {A : Around} {E : Value → Shared → Prop} {s : Shared} {h₀ : Heap} {L : Addr} {m : Str → Option Value} {news : List (Addr × Obj)} {Q : Value → Shared → Prop}
theorem r_split {r : List Nat} {y : Str} {t u : Tok} (hF : Fr h₀ L s.heap m) (hN : News h₀ L s.heap news) (hy : y = S [35]) (hr : r.length ≤ 1000)
    (h : ∀ D vs t' h' k, Fr h₀ L h' m → News h₀ L h' ((D, listOf (List.toArray (.str (S (cutL r)) t' :: vs)) 0) :: news) → (∀ p ∈ news, p.1 < D) → Q (.ref D) { s with heap := h', toks := k }) :
    wpAny (model prog w) A (call (.builtin "str.split") [.str (S r) t, .str y u]) Q E s := by
  subst hy
  refine KSpl.split1 hF hN rfl (fun D l h' k e _ F N lt => ?_) (by rw [S_len, sizeLine_eq]; omega)
  obtain ⟨rest, e2⟩ := split_cut r
  rw [e2] at e
  obtain ⟨t', l', rfl, _⟩ := KSpl.cons_of e
  exact h D (strValues l') t' h' k F N lt
end
inductive Tells : Value → Sum Str Nat → Prop
  | text (x : Str) (t : Tok) : Tells (.str x t) (.inl x)
  | num (n : Nat) (t : Tok) : Tells (.int (n : Nat) t) (.inr n)
theorem paired_len {G : Value → Value → Prop} {vs ys : List Value} (h : Paired G vs ys) : ys.length = vs.length := by
  induction h with
  | nil => rfl
  | cons _ _ ih => simp [ih]
theorem cnt3 (f : Nat → Bool) : ((List.range 3).filter f).length = (if f 0 then 1 else 0) + (if f 1 then 1 else 0) + (if f 2 then 1 else 0) := by
  show (([0, 1, 2] : List Nat).filter f).length = _
  by_cases h0 : f 0 = true <;> by_cases h1 : f 1 = true <;> by_cases h2 : f 2 = true <;> simp [h0, h1, h2]
theorem fits4 (r : List Nat) (x y z : List Nat) (hx : ∀ a ∈ [x, y, z], a ≠ []) :
    (takesB (cutL r) [x] = false ∧ takesB (cutL r) [x, y] = false ∧ takesB (cutL r) [x, y, z] = false ∧ fitsN r [x, y, z] = 0) ∨
    (takesB (cutL r) [x] = true ∧ takesB (cutL r) [x, y] = false ∧ takesB (cutL r) [x, y, z] = false ∧ fitsN r [x, y, z] = 1) ∨
    (takesB (cutL r) [x] = true ∧ takesB (cutL r) [x, y] = true ∧ takesB (cutL r) [x, y, z] = false ∧ fitsN r [x, y, z] = 2) ∨
    (takesB (cutL r) [x] = true ∧ takesB (cutL r) [x, y] = true ∧ takesB (cutL r) [x, y, z] = true ∧ fitsN r [x, y, z] = 3) := by
  have down : ∀ (us : List (List Nat)) k, (∀ a ∈ us, a ≠ []) → takesB (cutL r) us = true → takesB (cutL r) (us.take k) = true := fun us k hu h =>
    (takes_cut (fun a ha => hu a (List.mem_of_mem_take ha))).mpr (inC_take k ((takes_cut hu).mp h))
  have d1 := down [x, y] 1 (fun a ha => hx a (by simp at ha ⊢; rcases ha with h | h <;> simp [h]))
  have d2 := down [x, y, z] 2 hx
  have d1 : takesB (cutL r) [x, y] = true → takesB (cutL r) [x] = true := d1
  have d2 : takesB (cutL r) [x, y, z] = true → takesB (cutL r) [x, y] = true := d2
  have e : fitsN r [x, y, z] = ((List.range 3).filter fun k => takesB (cutL r) ([x, y, z].take (k + 1))).length := rfl
  have e2 : ((List.range 3).filter fun k => takesB (cutL r) ([x, y, z].take (k + 1))).length = (if takesB (cutL r) [x] then 1 else 0) + (if takesB (cutL r) [x, y] then 1 else 0) + (if takesB (cutL r) [x, y, z] then 1 else 0) := cnt3 _
  rw [e, e2]
  clear down e e2
  revert d1 d2
  generalize takesB (cutL r) [x, y, z] = b3
  generalize takesB (cutL r) [x, y] = b2
  generalize takesB (cutL r) [x] = b1
  revert b1 b2 b3
  decide
theorem takes_takes (r : List Nat) {ws : List (List Nat)} (hx : ∀ x ∈ ws, x ≠ []) {e : Nat} (h : gr r ws 0 = some e) (k : Nat) : takesB (r.take k) ws = decide (e ≤ k) := by
  unfold takesB
  rw [gr_take hx (Nat.zero_le _), h]
  by_cases q : e ≤ k <;> simp [q, Option.filter]
end Mine
end
section
open PySem PySem.Spec PySem.Calls PyProof.Rows PySem.W
set_option maxHeartbeats 4000000
namespace Mine
theorem kw27 : True := by
  (k_with "9exec While" => ((fail_if_success first | have := @Mine.e9s11 | fail); with_unfolding_all (first | with_reducible refine stopS3 ?_ | refine stopS3 ?_)))
  (k_with "9call ref" => ((fail_if_success first | have := @Mine.e9s11 | fail); with_unfolding_all (first | with_reducible refine stopC3 ?_ | refine stopC3 ?_)))
  trivial
theorem stopE3 {M : Model} {A : Around} {x : Expr} {env : Env} {Q : Value → Shared → Prop} {E : Value → Shared → Prop} {s : Shared} (h : Hold (wpAny M A (eval x env) Q E s)) : wpAny M A (eval x env) Q E s := h
theorem kw28 : True := by
  (k_with "9eval ListComp" => ((fail_if_success first | have := @Mine.e9s11 | fail); with_unfolding_all (first | with_reducible refine stopE3 ?_ | refine stopE3 ?_)))
  (k_with "9call builtin:len" => ((fail_if_success first | have := @Mine.e9s11 | fail); (with_reducible show wpAny _ _ (call (Value.builtin "len") [Value.ref D]) _ _ _); with_unfolding_all (first | with_reducible refine bm_len (vs := ys) (by k_asm) (by k_mem) (by omega) ?_ | refine bm_len (vs := ys) (by k_asm) (by k_mem) (by omega) ?_); intro _ _; rw [hyl5]))
  (k_with "9subscriptTail Name Name ref int" => ((fail_if_success first | have := @Mine.e9s11 | fail); with_unfolding_all first | (with_reducible show wpAny _ _ (subscriptTail _ _ (Value.ref lj) _) _ _ _); (first | with_reducible refine bm_item (l := lj) (vs := [.ref j1, .ref j2, .ref j3]) (by k_asm) (by k_mem) (by decide) (by decide) rfl ?_ | refine bm_item (l := lj) (vs := [.ref j1, .ref j2, .ref j3]) (by k_asm) (by k_mem) (by decide) (by decide) rfl ?_) | (with_reducible show wpAny _ _ (subscriptTail _ _ (Value.ref lw) _) _ _ _); (first | with_reducible refine bm_item (l := lw) (vs := [.str (S x) tx, .str (S y) ty, .str (S z) tz]) (by k_asm) (by k_mem) (by decide) (by decide) rfl ?_ | refine bm_item (l := lw) (vs := [.str (S x) tx, .str (S y) ty, .str (S z) tz]) (by k_asm) (by k_mem) (by decide) (by decide) rfl ?_)))
  (k_with "9subscriptTail Name Slice str ref" => ((fail_if_success first | have := @Mine.e9s11 | fail); with_unfolding_all walk_at "nm"; (first | with_reducible refine rs_ns F' N' (by omega) (by omega) ?_ | refine rs_ns F' N' (by omega) (by omega) ?_); intro h' t' k' F' N'))
  (k_with "9call builtin:str.split" => ((fail_if_success first | have := @Mine.e9s11 | fail); with_unfolding_all walk_at "nm"; (first | with_reducible refine r_split F' N' (by decide +kernel) (by omega) ?_ | refine r_split F' N' (by decide +kernel) (by omega) ?_); intro D' vs' t' h' k' F' N' l1; try k_lt l1))
  trivial
theorem told_found {r : List Nat} {ws : List (List Nat)} {strict : Bool} (h : fitsN r ws ≠ ws.length) (h1 : cutL r ≠ r) (h2 : strict = false ∨ takesB r (ws.take (fitsN r ws + 1)) = true) : toldV r ws strict = .inl (foundS (cutL r).length) := by
  rw [toldV, if_neg h, if_pos ⟨h1, h2⟩]
theorem told_exp {r : List Nat} {ws : List (List Nat)} (h : fitsN r ws ≠ ws.length) (h1 : cutL r = r ∨ (true = true ∧ takesB r (ws.take (fitsN r ws + 1)) = false)) : toldV r ws true = .inl (expS (ws.getD (fitsN r ws) [])) := by
  rw [toldV, if_neg h, if_neg, if_pos rfl]
  rintro ⟨q1, q2⟩
  rcases h1 with h1 | ⟨_, h1⟩
  · exact q1 h1
  · rcases q2 with q2 | q2
    · cases q2
    · rw [h1] at q2; cases q2
theorem told_num {r : List Nat} {ws : List (List Nat)} (h : fitsN r ws ≠ ws.length) (h1 : cutL r = r) : toldV r ws false = .inr (r.length + 1 + (ws.getLast?.getD []).length) := by
  rw [toldV, if_neg h, if_neg (fun q => q.1 h1), if_neg (by simp)]
theorem kw29 : True := by
  (k_with "9compareOp NotEq str str" => ((fail_if_success first | have := @Mine.e9s11 | fail); with_unfolding_all first | with_reducible refine r_ne true (by assumption) ?_ | with_reducible refine r_ne false (by assumption) ?_ | refine r_ne true (by assumption) ?_ | refine r_ne false (by assumption) ?_))
  trivial
noncomputable def pzT (r x y z : List Nat) (j1 j2 : Addr) (v : Value) : Bool := if v = .ref j1 then takesB (cutL r) [x] else if v = .ref j2 then takesB (cutL r) [x, y] else takesB (cutL r) [x, y, z]
theorem pz_at {r x y z : List Nat} {j1 j2 j3 : Addr} (j12 : j1 ≠ j2) (j13 : j1 ≠ j3) (j23 : j2 ≠ j3) : pzT r x y z j1 j2 (.ref j1) = takesB (cutL r) [x] ∧ pzT r x y z j1 j2 (.ref j2) = takesB (cutL r) [x, y] ∧ pzT r x y z j1 j2 (.ref j3) = takesB (cutL r) [x, y, z] := by
  refine ⟨if_pos rfl, ?_, ?_⟩
  · unfold pzT; rw [if_neg (fun q => j12 (by injection q with q; exact q.symm)), if_pos rfl]
  · unfold pzT; rw [if_neg (fun q => j13 (by injection q with q; exact q.symm)), if_neg (fun q => j23 (by injection q with q; exact q.symm))]
theorem pz_len {r x y z : List Nat} {j1 j2 j3 : Addr} (j12 : j1 ≠ j2) (j13 : j1 ≠ j3) (j23 : j2 ≠ j3) : ([Value.ref j1, .ref j2, .ref j3].filter (pzT r x y z j1 j2)).length = fitsN r [x, y, z] := by
  have e : fitsN r [x, y, z] = _ := cnt3 (fun k => takesB (cutL r) ([x, y, z].take (k + 1)))
  obtain ⟨p1, p2, p3⟩ := pz_at (r := r) (x := x) (y := y) (z := z) j12 j13 j23
  rw [e]
  simp only [List.filter_cons, List.filter_nil, p1, p2, p3, List.take_succ_cons, List.take_zero]
  by_cases h1 : takesB (cutL r) [x] = true <;> by_cases h2 : takesB (cutL r) [x, y] = true <;> by_cases h3 : takesB (cutL r) [x, y, z] = true <;> simp [h1, h2, h3]
section
variable {w : World} {base h₀ : Heap} {outer : List Env} {L : Addr} {m : Str → Option Value} {env : Env} {news : List (Addr × Obj)}
  {hd : Option Value} {dp un : Nat} {gd : Option (List Code)} {s : Shared} {Q E : Value → Shared → Prop}
noncomputable abbrev rowsO (ws : List (List Nat)) (ts : List Tok) (n : Nat) : Obj := W.listOf (List.toArray ((List.zip ([] :: (ws ++ [[]])) ts).map fun p => .str (S p.1) p.2)) n
end
namespace EC_told
noncomputable def Pk9 (w : World) (base : Heap) (h₀ : Heap) (outer : List Env) (L : Addr) (m : Str → Option Value) (env : Env) (news : List (Addr × Obj)) (dp : Nat) (un : Nat) (gd : Option (List Code)) (s : Shared) (Q : Value → Shared → Prop) (E : Value → Shared → Prop) (r : List Nat) (x : List Nat) (y : List Nat) (z : List Nat) (n : Nat) (n1 : Nat) (n2 : Nat) (n3 : Nat) (n4 : Nat) (lw : Addr) (lj : Addr) (j1 : Addr) (j2 : Addr) (j3 : Addr) (t0 : Tok) (tx : Tok) (ty : Tok) (tz : Tok) (a1 : Tok) (a2 : Tok) (a3 : Tok) (b1 : Tok) (b2 : Tok) (b3 : Tok) (b4 : Tok) (c1 : Tok) (c2 : Tok) (c3 : Tok) (c4 : Tok) (c5 : Tok) : Prop := ∀ {strict : Bool} (am : Amb w base h₀ L m env outer news s.heap) (hdp : dp < 400) (hx : x ≠ []) (hxl : x.length ≤ 2) (hy : y ≠ []) (hyl : y.length ≤ 2) (hz : z ≠ []) (hzl : z.length ≤ 2) (hr : r.length ≤ 12) (hrx : (reprText (S x)).length ≤ 500) (hry : (reprText (S y)).length ≤ 500) (hrz : (reprText (S z)).length ≤ 500) (hlw : (lw, W.listOf (List.toArray [.str (S x) tx, .str (S y) ty, .str (S z) tz]) n) ∈ news) (hlj : (lj, W.listOf (List.toArray [.ref j1, .ref j2, .ref j3]) n1) ∈ news) (hj1 : (j1, W.listOf (List.toArray [.str (S []) a1, .str (S x) a2, .str (S []) a3]) n2) ∈ news) (hj2 : (j2, W.listOf (List.toArray [.str (S []) b1, .str (S x) b2, .str (S y) b3, .str (S []) b4]) n3) ∈ news) (hj3 : (j3, W.listOf (List.toArray [.str (S []) c1, .str (S x) c2, .str (S y) c3, .str (S z) c4, .str (S []) c5]) n4) ∈ news) (hret : ∀ v h' tk, s.heap.StaysIn h' → Tells v (toldV r [x, y, z] strict) → Q v { s with heap := h', toks := tk }),
    wpAny (MD w) (ar none dp un gd env outer) (call (.ref 162) [.str (S r) t0, .ref lw, .ref lj, .bool strict]) Q E s
noncomputable def Pu9 (x : (((((((World) × (Heap)) × (Heap)) × (((List Env) × (Addr)) × (Str → Option Value))) × ((((Env) × (List (Addr × Obj))) × (Nat)) × ((Nat) × (Option (List Code))))) × (((((Shared) × (Value → Shared → Prop)) × (Value → Shared → Prop)) × (((List Nat) × (List Nat)) × (List Nat))) × ((((List Nat) × (Nat)) × (Nat)) × ((Nat) × (Nat))))) × ((((((Nat) × (Addr)) × (Addr)) × (((Addr) × (Addr)) × (Addr))) × ((((Tok) × (Tok)) × (Tok)) × ((Tok) × (Tok)))) × (((((Tok) × (Tok)) × (Tok)) × (((Tok) × (Tok)) × (Tok))) × ((((Tok) × (Tok)) × (Tok)) × ((Tok) × (Tok))))))) : Prop := Pk9 x.1.1.1.1.1.1 x.1.1.1.1.1.2 x.1.1.1.1.2 x.1.1.1.2.1.1 x.1.1.1.2.1.2 x.1.1.1.2.2 x.1.1.2.1.1.1 x.1.1.2.1.1.2 x.1.1.2.1.2 x.1.1.2.2.1 x.1.1.2.2.2 x.1.2.1.1.1.1 x.1.2.1.1.1.2 x.1.2.1.1.2 x.1.2.1.2.1.1 x.1.2.1.2.1.2 x.1.2.1.2.2 x.1.2.2.1.1.1 x.1.2.2.1.1.2 x.1.2.2.1.2 x.1.2.2.2.1 x.1.2.2.2.2 x.2.1.1.1.1.1 x.2.1.1.1.1.2 x.2.1.1.1.2 x.2.1.1.2.1.1 x.2.1.1.2.1.2 x.2.1.1.2.2 x.2.1.2.1.1.1 x.2.1.2.1.1.2 x.2.1.2.1.2 x.2.1.2.2.1 x.2.1.2.2.2 x.2.2.1.1.1.1 x.2.2.1.1.1.2 x.2.2.1.1.2 x.2.2.1.2.1.1 x.2.2.1.2.1.2 x.2.2.1.2.2 x.2.2.2.1.1.1 x.2.2.2.1.1.2 x.2.2.2.1.2 x.2.2.2.2.1 x.2.2.2.2.2
noncomputable def ck9 : {x : _ // Pu9 x → ∀ y, Pu9 y} := Classical.choice (drink (by repeat (first | exact neS | exact neW | exact neA | refine ne2 ?_ ?_ | exact ⟨default⟩ | exact ⟨fun _ _ => True⟩ | exact ⟨fun _ => True⟩ | exact ⟨fun _ => default⟩ | exact ⟨fun _ _ => default⟩)))
noncomputable def w : World := ck9.1.1.1.1.1.1.1
noncomputable def base : Heap := ck9.1.1.1.1.1.1.2
noncomputable def h₀ : Heap := ck9.1.1.1.1.1.2
noncomputable def outer : List Env := ck9.1.1.1.1.2.1.1
noncomputable def L : Addr := ck9.1.1.1.1.2.1.2
noncomputable def m : Str → Option Value := ck9.1.1.1.1.2.2
noncomputable def env : Env := ck9.1.1.1.2.1.1.1
noncomputable def news : List (Addr × Obj) := ck9.1.1.1.2.1.1.2
noncomputable def dp : Nat := ck9.1.1.1.2.1.2
noncomputable def un : Nat := ck9.1.1.1.2.2.1
noncomputable def gd : Option (List Code) := ck9.1.1.1.2.2.2
noncomputable def s : Shared := ck9.1.1.2.1.1.1.1
noncomputable def Q : Value → Shared → Prop := ck9.1.1.2.1.1.1.2
noncomputable def E : Value → Shared → Prop := ck9.1.1.2.1.1.2
noncomputable def r : List Nat := ck9.1.1.2.1.2.1.1
noncomputable def x : List Nat := ck9.1.1.2.1.2.1.2
noncomputable def y : List Nat := ck9.1.1.2.1.2.2
noncomputable def z : List Nat := ck9.1.1.2.2.1.1.1
noncomputable def n : Nat := ck9.1.1.2.2.1.1.2
noncomputable def n1 : Nat := ck9.1.1.2.2.1.2
noncomputable def n2 : Nat := ck9.1.1.2.2.2.1
noncomputable def n3 : Nat := ck9.1.1.2.2.2.2
noncomputable def n4 : Nat := ck9.1.2.1.1.1.1.1
noncomputable def lw : Addr := ck9.1.2.1.1.1.1.2
noncomputable def lj : Addr := ck9.1.2.1.1.1.2
noncomputable def j1 : Addr := ck9.1.2.1.1.2.1.1
noncomputable def j2 : Addr := ck9.1.2.1.1.2.1.2
noncomputable def j3 : Addr := ck9.1.2.1.1.2.2
noncomputable def t0 : Tok := ck9.1.2.1.2.1.1.1
noncomputable def tx : Tok := ck9.1.2.1.2.1.1.2
noncomputable def ty : Tok := ck9.1.2.1.2.1.2
noncomputable def tz : Tok := ck9.1.2.1.2.2.1
noncomputable def a1 : Tok := ck9.1.2.1.2.2.2
noncomputable def a2 : Tok := ck9.1.2.2.1.1.1.1
noncomputable def a3 : Tok := ck9.1.2.2.1.1.1.2
noncomputable def b1 : Tok := ck9.1.2.2.1.1.2
noncomputable def b2 : Tok := ck9.1.2.2.1.2.1.1
noncomputable def b3 : Tok := ck9.1.2.2.1.2.1.2
noncomputable def b4 : Tok := ck9.1.2.2.1.2.2
noncomputable def c1 : Tok := ck9.1.2.2.2.1.1.1
noncomputable def c2 : Tok := ck9.1.2.2.2.1.1.2
noncomputable def c3 : Tok := ck9.1.2.2.2.1.2
noncomputable def c4 : Tok := ck9.1.2.2.2.2.1
noncomputable def c5 : Tok := ck9.1.2.2.2.2.2
theorem kk9 : Pk9 w base h₀ outer L m env news dp un gd s Q E r x y z n n1 n2 n3 n4 lw lj j1 j2 j3 t0 tx ty tz a1 a2 a3 b1 b2 b3 b4 c1 c2 c3 c4 c5 := by
  intro strict am hdp hx hxl hy hyl hz hzl hr hrx hry hrz hlw hlj hj1 hj2 hj3 hret
  (try revert hret)
  (try revert hj3)
  (try revert hj2)
  (try revert hj1)
  (try revert hlj)
  (try revert hlw)
  (try revert hrz)
  (try revert hry)
  (try revert hrx)
  (try revert hr)
  (try revert hzl)
  (try revert hz)
  (try revert hyl)
  (try revert hy)
  (try revert hxl)
  (try revert hx)
  (try revert hdp)
  (try revert am)
  (repeat ((rename (_ : Prop) => z9); (fail_if_success (have : Clm := z9)); revert z9))
  revert strict
  (refine no_implicit_lambda% (close1 32224 ?ne_kpC_t (R := ?R_kpC_t) ((?nw_kpC_t : ∀ strict, ?R_kpC_t strict) (Mine.cl 32224 ?ne_kpC_t ?R_kpC_t))))
  (case ne_kpC_t => repeat (first | exact ⟨default⟩ | exact neS | exact neW | exact neA | refine ne2 ?_ ?_))
  intro strict
  (set_option tactic.hygienic false in intros)
  have mk9 : Clm := ⟨trivial⟩
  obtain ⟨tb, htbd⟩ : ∃ tb : List (Addr × Obj), tb = [(lw, W.listOf (List.toArray [.str (S x) tx, .str (S y) ty, .str (S z) tz]) n), (lj, W.listOf (List.toArray [.ref j1, .ref j2, .ref j3]) n1), (j1, W.listOf (List.toArray [.str (S []) a1, .str (S x) a2, .str (S []) a3]) n2), (j2, W.listOf (List.toArray [.str (S []) b1, .str (S x) b2, .str (S y) b3, .str (S []) b4]) n3), (j3, W.listOf (List.toArray [.str (S []) c1, .str (S x) c2, .str (S y) c3, .str (S z) c4, .str (S []) c5]) n4)] := ⟨_, rfl⟩
  have htb : ∀ p ∈ tb, p ∈ news := by
    rw [htbd]
    exact List.forall_mem_cons.mpr ⟨hlw, List.forall_mem_cons.mpr ⟨hlj, List.forall_mem_cons.mpr ⟨hj1, List.forall_mem_cons.mpr ⟨hj2, List.forall_mem_cons.mpr ⟨hj3, List.forall_mem_nil _⟩⟩⟩⟩⟩
  subst htbd
  have mk9 : Clm := ⟨trivial⟩
  obtain ⟨⟨A₀, B⟩, F, X, N, ⟨p, loose, mean, mg, mb, T⟩, hf, hke⟩ := am
  have XX := Frag.In.keeps X (Fr.keep F)
  have hK : (fun (_ : OpenLaw) (_ : Params → Frag) => True) PySem.Challenge.rw_rx0047_01 Mine.hd0.heap_1 := by (k_fill; trivial)
  refine' wpAny_call (enterC (binds := [(Str.ofString "row", .str (S r) t0), (Str.ofString "words", .ref lw), (Str.ofString "judges", .ref lj), (Str.ofString "strict", .bool strict)]) B F N htb (Top.nolimit T) rfl hf hke ?ho_e15 ?hd_e15 ?hcd_e15 ?hroom_e15 ?hbind_e15 ?hkind_e15 ?hnd_e15 ?h_e15 ?hco_e15 ?hgen_e15 ?hk_e15)
  (case ho_e15 => exact XX _ _ (by k_is))
  (case hd_e15 => exact rfl)
  (case hcd_e15 => exact codeRec_of XX (by k_is))
  (case hroom_e15 => exact Nat.lt_of_lt_of_le hdp (by decide))
  (case hbind_e15 => first | exact BindsTo.of_eq rfl | exact binds_K XX rfl (by k_is) rfl rfl rfl)
  (case hkind_e15 => exact rfl)
  (case hnd_e15 => decide +kernel)
  (case hco_e15 => exact rfl)
  (case hgen_e15 => exact rfl)
  (case hk_e15 => exact rfl)
  intro g L' h₁ tk₁ cells' hg F' N' Y' B' st l1
  have X' := Frag.In.keeps X st
  have T' := Top.keeps T st
  (try k_lt l1)
  k_cells Y'
  rename_i c1 e1
  (try simp only [List.cons_append, List.nil_append] at N')
  (try dsimp only)
  (try k_fold)
  clear hK
  (try revert e1)
  (try revert T')
  (try revert X')
  (try revert l1)
  (try revert st)
  (try revert B')
  (try revert N')
  (try revert F')
  (try revert hg)
  (try revert hK)
  (try revert XX)
  (try revert hke)
  (try revert hf)
  (try revert T)
  (try revert N)
  (try revert X)
  (try revert F)
  (try revert B)
  (repeat ((rename (_ : Prop) => z9); (fail_if_success (have : Clm := z9)); revert z9))
  revert A₀ p loose mean mg mb g L' h₁ tk₁ c1
  (refine no_implicit_lambda% (close11 12223 ?ne_e1 (R := ?R_e1) ((?nw_e1 : ∀ A₀ p loose mean mg mb g L' h₁ tk₁ c1, ?R_e1 A₀ p loose mean mg mb g L' h₁ tk₁ c1) (Mine.cl 12223 ?ne_e1 (un11 ?R_e1)).1.1.1.1 (Mine.cl 12223 ?ne_e1 (un11 ?R_e1)).1.1.1.2 (Mine.cl 12223 ?ne_e1 (un11 ?R_e1)).1.1.2 (Mine.cl 12223 ?ne_e1 (un11 ?R_e1)).1.2.1.1 (Mine.cl 12223 ?ne_e1 (un11 ?R_e1)).1.2.1.2 (Mine.cl 12223 ?ne_e1 (un11 ?R_e1)).1.2.2 (Mine.cl 12223 ?ne_e1 (un11 ?R_e1)).2.1.1.1 (Mine.cl 12223 ?ne_e1 (un11 ?R_e1)).2.1.1.2 (Mine.cl 12223 ?ne_e1 (un11 ?R_e1)).2.1.2 (Mine.cl 12223 ?ne_e1 (un11 ?R_e1)).2.2.1 (Mine.cl 12223 ?ne_e1 (un11 ?R_e1)).2.2.2)))
  (case ne_e1 => repeat (first | exact ⟨default⟩ | exact neS | exact neW | exact neA | refine ne2 ?_ ?_))
  intro A₀ p loose mean mg mb g L' h₁ tk₁ c1
  (set_option tactic.hygienic false in intros)
  have mk9 : Clm := ⟨trivial⟩
  have fo9 : FoldOn := ⟨trivial⟩
  have hcl : (cutL r).length ≤ 100 := Nat.le_trans (cut_le r) (by omega)
  have w1 : ∀ a ∈ [x], a ≠ [] := by simpa using hx
  have w2 : ∀ a ∈ [x, y], a ≠ [] := by simp [hx, hy]
  have w3 : ∀ a ∈ [x, y, z], a ≠ [] := by simp [hx, hy, hz]
  have j12 : j1 ≠ j2 := fun q => by
    have z1 := (N _ hj1).1
    have z2 := (N _ hj2).1
    rw [show ((j1, listOf (List.toArray [Value.str (S []) a1, .str (S x) a2, .str (S []) a3]) n2) : Addr × Obj).1 = j2 from q, z2] at z1
    injection z1 with z1
    injection z1 with _ _ z1
    injection z1 with z1 _
    exact absurd (congrArg Array.size z1) (by simp)
  have j13 : j1 ≠ j3 := fun q => by
    have z1 := (N _ hj1).1
    have z2 := (N _ hj3).1
    rw [show ((j1, listOf (List.toArray [Value.str (S []) a1, .str (S x) a2, .str (S []) a3]) n2) : Addr × Obj).1 = j3 from q, z2] at z1
    injection z1 with z1
    injection z1 with _ _ z1
    injection z1 with z1 _
    exact absurd (congrArg Array.size z1) (by simp)
  have j23 : j2 ≠ j3 := fun q => by
    have z1 := (N _ hj2).1
    have z2 := (N _ hj3).1
    rw [show ((j2, listOf (List.toArray [Value.str (S []) b1, .str (S x) b2, .str (S y) b3, .str (S []) b4]) n3) : Addr × Obj).1 = j3 from q, z2] at z1
    injection z1 with z1
    injection z1 with _ _ z1
    injection z1 with z1 _
    exact absurd (congrArg Array.size z1) (by simp)
  have hpl : ([Value.ref j1, .ref j2, .ref j3].filter (pzT r x y z j1 j2)).length = fitsN r [x, y, z] := pz_len j12 j13 j23
  k_steps
  unfold Hold
  (with_reducible refine' compK (pzT r x y z j1 j2) (fun _ _ => True) ?c1 ?c2 ?c3 ?c4 ?c5 ?c6 ?_ ?c7)
  (case c1 => exact rfl)
  (case c2 => with_unfolding_all rfl)
  (case c3 => decide)
  (case c4 => exact rfl)
  (case c5 => decide)
  (case c6 => exact rfl)
  (case c7 => intro _; exact rfl)
  k_steps
  unfold Hold
  walk_at "nm"
  refine ⟨lj, [.ref j1, .ref j2, .ref j3], rfl, N'.isList (by k_mem), (by rw [sizeLine_eq]; exact Nat.le_of_ble_eq_true rfl), ?ct, ?ce, ?ck⟩
  case ct =>
    intro C v s₂ m₂ E' hv hC hn hx9 hk
    have hv : v = .ref j1 ∨ v = .ref j2 ∨ v = .ref j3 := by simpa using hv
    obtain ⟨p1, p2, p3⟩ := pz_at (r := r) (x := x) (y := y) (z := z) j12 j13 j23
    rcases hv with rfl | rfl | rfl
    · k_steps
      unfold Hold
      walk_at "nm"
      with_unfolding_all refine' C_takes1 (am := ?am1) (hdp := ?hd1) (hx := hx) (hxl := hxl) (hname := ?hn1) (hl := ?hm1) (hret := ?hr1)
      case am1 => exact ⟨⟨_, B'⟩, F', X', N', ⟨_, _, _, _, _, T'⟩, rfl, rfl⟩
      case hd1 => show dp + 1 < 500; omega
      case hn1 => exact hcl
      case hm1 => k_mem
      intro h5 tk5 k5
      rw [← takes_gpl _ _ w1]
      have F5 := backF F' k5
      have N5 := backN N' k5
      clear F' N'
      have F' := F5
      have N' := N5
      clear F5 N5
      (try ((rename InElt _ _ => cE'); (have cE5 : InElt _ _ := fun b o e => k5 _ _ (cE' b o e)); clear cE'; (have cE' := cE5); clear cE5))
      k_steps
      · exact p1.symm
      · (rename InElt _ _ => cE'); exact ⟨_, _, rfl, cE'⟩
    · k_steps
      unfold Hold
      walk_at "nm"
      with_unfolding_all refine' C_takes2 (am := ?am2) (hdp := ?hd2) (hx := hx) (hxl := hxl) (hy := hy) (hyl := hyl) (hname := ?hn2) (hl := ?hm2) (hret := ?hr2)
      case am2 => exact ⟨⟨_, B'⟩, F', X', N', ⟨_, _, _, _, _, T'⟩, rfl, rfl⟩
      case hd2 => show dp + 1 < 500; omega
      case hn2 => exact hcl
      case hm2 => k_mem
      intro h5 tk5 k5
      rw [← takes_gpl _ _ w2]
      have F5 := backF F' k5
      have N5 := backN N' k5
      clear F' N'
      have F' := F5
      have N' := N5
      clear F5 N5
      (try ((rename InElt _ _ => cE'); (have cE5 : InElt _ _ := fun b o e => k5 _ _ (cE' b o e)); clear cE'; (have cE' := cE5); clear cE5))
      k_steps
      · exact p2.symm
      · (rename InElt _ _ => cE'); exact ⟨_, _, rfl, cE'⟩
    · k_steps
      unfold Hold
      walk_at "nm"
      with_unfolding_all refine' C_takes3 (am := ?am3) (hdp := ?hd3) (hx := hx) (hxl := hxl) (hy := hy) (hyl := hyl) (hz := hz) (hzl := hzl) (hname := ?hn3) (hl := ?hm3) (hret := ?hr3)
      case am3 => exact ⟨⟨_, B'⟩, F', X', N', ⟨_, _, _, _, _, T'⟩, rfl, rfl⟩
      case hd3 => show dp + 1 < 500; omega
      case hn3 => exact hcl
      case hm3 => k_mem
      intro h5 tk5 k5
      rw [← takes_gpl _ _ w3]
      have F5 := backF F' k5
      have N5 := backN N' k5
      clear F' N'
      have F' := F5
      have N' := N5
      clear F5 N5
      (try ((rename InElt _ _ => cE'); (have cE5 : InElt _ _ := fun b o e => k5 _ _ (cE' b o e)); clear cE'; (have cE' := cE5); clear cE5))
      k_steps
      · exact p3.symm
      · (rename InElt _ _ => cE'); exact ⟨_, _, rfl, cE'⟩
  case ce =>
    intro C v s₂ m₂ E' hv hp hC hn hx9 hk
    have hv : v = .ref j1 ∨ v = .ref j2 ∨ v = .ref j3 := by simpa using hv
    rcases hv with rfl | rfl | rfl <;> (k_steps; first | done | (all_goals first | exact trivial | exact ⟨_, _, rfl, fun _ _ e => e⟩))
  case ck =>
    intro D ys h5 tk5 k5 hDn hpl5 hpr
    have hyl5 : ys.length = fitsN r [x, y, z] := (paired_len hpr).trans hpl
    obtain ⟨nn, hD⟩ := hpl5
    have F5 := backF F' k5
    have N5 := backA F' (backN N' k5) hD hDn
    clear F' N'
    have F' := F5
    have N' := N5
    clear F5 N5
    have hrl9 : r.length ≤ 100 := by omega
    have eS : (S (cutL r)).cps.toList = cutL r := rfl
    have eR : (S r).cps.toList = r := rfl
    rcases fits4 r x y z w3 with ⟨f1, f2, f3, hf⟩ | ⟨f1, f2, f3, hf⟩ | ⟨f1, f2, f3, hf⟩ | ⟨f1, f2, f3, hf⟩ <;> rw [hf] at hyl5
    · have hne : fitsN r [x, y, z] ≠ 3 := by rw [hf]; decide
      by_cases hcut : cutL r = r
      · have hq : ((S (cutL r)).cps.toList != (S r).cps.toList) = false := by rw [eS, eR, hcut]; simp
        cases strict
        · k_steps
          (try dsimp only)
          walk_at "nm"
          have hs := stays hg N htb F' N' (by repeat (first | exact List.forall_mem_nil _ | refine List.forall_mem_cons.mpr ⟨by k_mem, ?_⟩))
          refine hret _ _ _ hs ?_
          rw [told_num hne hcut]
          exact .num (r.length + 1 + z.length) _
        · k_steps
          (try dsimp only)
          walk_at "nm"
          have hs := stays hg N htb F' N' (by repeat (first | exact List.forall_mem_nil _ | refine List.forall_mem_cons.mpr ⟨by k_mem, ?_⟩))
          refine hret _ _ _ hs ?_
          rw [told_exp hne (.inl hcut), hf]
          exact .text _ _
      · have hq : ((S (cutL r)).cps.toList != (S r).cps.toList) = true := by rw [eS, eR]; simpa using hcut
        cases strict
        · k_steps
          (try dsimp only)
          walk_at "nm"
          have hs := stays hg N htb F' N' (by repeat (first | exact List.forall_mem_nil _ | refine List.forall_mem_cons.mpr ⟨by k_mem, ?_⟩))
          refine hret _ _ _ hs ?_
          rw [told_found hne hcut (.inl rfl)]
          exact .text _ _
        · k_steps
          unfold Hold
          walk_at "nm"
          with_unfolding_all refine' C_takes1 (am := ?am10) (hdp := ?hd10) (hx := hx) (hxl := hxl) (hname := ?hn10) (hl := ?hm10) (hret := ?hr10)
          case am10 => exact ⟨⟨_, B'⟩, F', X', N', ⟨_, _, _, _, _, T'⟩, rfl, rfl⟩
          case hd10 => show dp + 1 < 500; omega
          case hn10 => exact hrl9
          case hm10 => k_mem
          intro h5 tk5 k5
          rw [← takes_gpl _ _ w1]
          have F5 := backF F' k5
          have N5 := backN N' k5
          clear F' N'
          have F' := F5
          have N' := N5
          clear F5 N5
          (try ((rename InElt _ _ => cE'); (have cE5 : InElt _ _ := fun b o e => k5 _ _ (cE' b o e)); clear cE'; (have cE' := cE5); clear cE5))
          cases hb9 : takesB r [x]
          · k_steps
            (try dsimp only)
            walk_at "nm"
            have hs := stays hg N htb F' N' (by repeat (first | exact List.forall_mem_nil _ | refine List.forall_mem_cons.mpr ⟨by k_mem, ?_⟩))
            refine hret _ _ _ hs ?_
            rw [told_exp hne (.inr ⟨rfl, (by rw [hf]; exact hb9)⟩), hf]
            exact .text _ _
          · k_steps
            (try dsimp only)
            walk_at "nm"
            have hs := stays hg N htb F' N' (by repeat (first | exact List.forall_mem_nil _ | refine List.forall_mem_cons.mpr ⟨by k_mem, ?_⟩))
            refine hret _ _ _ hs ?_
            rw [told_found hne hcut (.inr (by rw [hf]; exact hb9))]
            exact .text _ _
    · have hne : fitsN r [x, y, z] ≠ 3 := by rw [hf]; decide
      by_cases hcut : cutL r = r
      · have hq : ((S (cutL r)).cps.toList != (S r).cps.toList) = false := by rw [eS, eR, hcut]; simp
        cases strict
        · k_steps
          (try dsimp only)
          walk_at "nm"
          have hs := stays hg N htb F' N' (by repeat (first | exact List.forall_mem_nil _ | refine List.forall_mem_cons.mpr ⟨by k_mem, ?_⟩))
          refine hret _ _ _ hs ?_
          rw [told_num hne hcut]
          exact .num (r.length + 1 + z.length) _
        · k_steps
          (try dsimp only)
          walk_at "nm"
          have hs := stays hg N htb F' N' (by repeat (first | exact List.forall_mem_nil _ | refine List.forall_mem_cons.mpr ⟨by k_mem, ?_⟩))
          refine hret _ _ _ hs ?_
          rw [told_exp hne (.inl hcut), hf]
          exact .text _ _
      · have hq : ((S (cutL r)).cps.toList != (S r).cps.toList) = true := by rw [eS, eR]; simpa using hcut
        cases strict
        · k_steps
          (try dsimp only)
          walk_at "nm"
          have hs := stays hg N htb F' N' (by repeat (first | exact List.forall_mem_nil _ | refine List.forall_mem_cons.mpr ⟨by k_mem, ?_⟩))
          refine hret _ _ _ hs ?_
          rw [told_found hne hcut (.inl rfl)]
          exact .text _ _
        · k_steps
          unfold Hold
          walk_at "nm"
          with_unfolding_all refine' C_takes2 (am := ?am11) (hdp := ?hd11) (hx := hx) (hxl := hxl) (hy := hy) (hyl := hyl) (hname := ?hn11) (hl := ?hm11) (hret := ?hr11)
          case am11 => exact ⟨⟨_, B'⟩, F', X', N', ⟨_, _, _, _, _, T'⟩, rfl, rfl⟩
          case hd11 => show dp + 1 < 500; omega
          case hn11 => exact hrl9
          case hm11 => k_mem
          intro h5 tk5 k5
          rw [← takes_gpl _ _ w2]
          have F5 := backF F' k5
          have N5 := backN N' k5
          clear F' N'
          have F' := F5
          have N' := N5
          clear F5 N5
          (try ((rename InElt _ _ => cE'); (have cE5 : InElt _ _ := fun b o e => k5 _ _ (cE' b o e)); clear cE'; (have cE' := cE5); clear cE5))
          cases hb9 : takesB r [x, y]
          · k_steps
            (try dsimp only)
            walk_at "nm"
            have hs := stays hg N htb F' N' (by repeat (first | exact List.forall_mem_nil _ | refine List.forall_mem_cons.mpr ⟨by k_mem, ?_⟩))
            refine hret _ _ _ hs ?_
            rw [told_exp hne (.inr ⟨rfl, (by rw [hf]; exact hb9)⟩), hf]
            exact .text _ _
          · k_steps
            (try dsimp only)
            walk_at "nm"
            have hs := stays hg N htb F' N' (by repeat (first | exact List.forall_mem_nil _ | refine List.forall_mem_cons.mpr ⟨by k_mem, ?_⟩))
            refine hret _ _ _ hs ?_
            rw [told_found hne hcut (.inr (by rw [hf]; exact hb9))]
            exact .text _ _
    · have hne : fitsN r [x, y, z] ≠ 3 := by rw [hf]; decide
      by_cases hcut : cutL r = r
      · have hq : ((S (cutL r)).cps.toList != (S r).cps.toList) = false := by rw [eS, eR, hcut]; simp
        cases strict
        · k_steps
          (try dsimp only)
          walk_at "nm"
          have hs := stays hg N htb F' N' (by repeat (first | exact List.forall_mem_nil _ | refine List.forall_mem_cons.mpr ⟨by k_mem, ?_⟩))
          refine hret _ _ _ hs ?_
          rw [told_num hne hcut]
          exact .num (r.length + 1 + z.length) _
        · k_steps
          (try dsimp only)
          walk_at "nm"
          have hs := stays hg N htb F' N' (by repeat (first | exact List.forall_mem_nil _ | refine List.forall_mem_cons.mpr ⟨by k_mem, ?_⟩))
          refine hret _ _ _ hs ?_
          rw [told_exp hne (.inl hcut), hf]
          exact .text _ _
      · have hq : ((S (cutL r)).cps.toList != (S r).cps.toList) = true := by rw [eS, eR]; simpa using hcut
        cases strict
        · k_steps
          (try dsimp only)
          walk_at "nm"
          have hs := stays hg N htb F' N' (by repeat (first | exact List.forall_mem_nil _ | refine List.forall_mem_cons.mpr ⟨by k_mem, ?_⟩))
          refine hret _ _ _ hs ?_
          rw [told_found hne hcut (.inl rfl)]
          exact .text _ _
        · k_steps
          unfold Hold
          walk_at "nm"
          with_unfolding_all refine' C_takes3 (am := ?am12) (hdp := ?hd12) (hx := hx) (hxl := hxl) (hy := hy) (hyl := hyl) (hz := hz) (hzl := hzl) (hname := ?hn12) (hl := ?hm12) (hret := ?hr12)
          case am12 => exact ⟨⟨_, B'⟩, F', X', N', ⟨_, _, _, _, _, T'⟩, rfl, rfl⟩
          case hd12 => show dp + 1 < 500; omega
          case hn12 => exact hrl9
          case hm12 => k_mem
          intro h5 tk5 k5
          rw [← takes_gpl _ _ w3]
          have F5 := backF F' k5
          have N5 := backN N' k5
          clear F' N'
          have F' := F5
          have N' := N5
          clear F5 N5
          (try ((rename InElt _ _ => cE'); (have cE5 : InElt _ _ := fun b o e => k5 _ _ (cE' b o e)); clear cE'; (have cE' := cE5); clear cE5))
          cases hb9 : takesB r [x, y, z]
          · k_steps
            (try dsimp only)
            walk_at "nm"
            have hs := stays hg N htb F' N' (by repeat (first | exact List.forall_mem_nil _ | refine List.forall_mem_cons.mpr ⟨by k_mem, ?_⟩))
            refine hret _ _ _ hs ?_
            rw [told_exp hne (.inr ⟨rfl, (by rw [hf]; exact hb9)⟩), hf]
            exact .text _ _
          · k_steps
            (try dsimp only)
            walk_at "nm"
            have hs := stays hg N htb F' N' (by repeat (first | exact List.forall_mem_nil _ | refine List.forall_mem_cons.mpr ⟨by k_mem, ?_⟩))
            refine hret _ _ _ hs ?_
            rw [told_found hne hcut (.inr (by rw [hf]; exact hb9))]
            exact .text _ _
    · obtain ⟨e, he, hle⟩ := (takes_cut w3).mp f3
      have hcr := cut_le r
      have hfe : fitsN r [x, y, z] = [x, y, z].length := hf
      k_steps
      unfold Hold
      walk_at "nm"
      refine whileUpF (i := Str.ofString "size") (k₀ := 0) (K := (e : Int)) F' N' rfl (by omega) ?gt ?gn ?gd
      case gt =>
        clear F' N'
        intro k tk h₁ tk₁ hk1 hk2 F' N'
        k_steps
        unfold Hold
        walk_at "nm"
        with_unfolding_all refine' C_takes3 (am := ?am20) (hdp := ?hd20) (hx := hx) (hxl := hxl) (hy := hy) (hyl := hyl) (hz := hz) (hzl := hzl) (hname := ?hn20) (hl := ?hm20) (hret := ?hr20)
        case am20 => exact ⟨⟨_, B'⟩, F', X', N', ⟨_, _, _, _, _, T'⟩, rfl, rfl⟩
        case hd20 => show dp + 1 < 500; omega
        case hn20 => exact (by rw [List.length_take]; omega)
        case hm20 => k_mem
        intro h5 tk5 k5
        rw [← takes_gpl _ _ w3]
        have F5 := backF F' k5
        have N5 := backN N' k5
        clear F' N'
        have F' := F5
        have N' := N5
        clear F5 N5
        (try ((rename InElt _ _ => cE'); (have cE5 : InElt _ _ := fun b o e => k5 _ _ (cE' b o e)); clear cE'; (have cE' := cE5); clear cE5))
        rw [takes_takes r w3 he]
        k_steps
        walk_at "nm"
        refine ⟨?_, _, _, rfl, F', cb_drop N' (by repeat (first | exact List.forall_mem_nil _ | refine List.forall_mem_cons.mpr ⟨by k_mem, ?_⟩))⟩
        by_cases hk : k < e
        · rw [decide_eq_true hk, decide_eq_false (by omega)]; rfl
        · rw [decide_eq_false hk, decide_eq_true (by omega)]; rfl
      case gn =>
        clear F' N'
        intro k tk h₁ tk₁ hk1 hk2 F' N'
        k_steps
      clear F' N'
      intro t3 h3 tk3 F' N'
      k_steps
      (try dsimp only)
      walk_at "nm"
      have hs := stays hg N htb F' N' (by repeat (first | exact List.forall_mem_nil _ | refine List.forall_mem_cons.mpr ⟨by k_mem, ?_⟩))
      refine hret _ _ _ hs ?_
      rw [toldV, if_pos hfe, he]
      exact .num (e + 1) _
end EC_told
section
variable {w : World} {base h₀ : Heap} {outer : List Env} {L : Addr} {m : Str → Option Value} {env : Env} {news : List (Addr × Obj)}
  {hd : Option Value} {dp un : Nat} {gd : Option (List Code)} {s : Shared} {Q E : Value → Shared → Prop}
theorem C_told {r x y z : List Nat} {strict : Bool} {n n1 n2 n3 n4 : Nat} {lw lj j1 j2 j3 : Addr} {t0 tx ty tz a1 a2 a3 b1 b2 b3 b4 c1 c2 c3 c4 c5 : Tok} (am : Amb w base h₀ L m env outer news s.heap) (hdp : dp < 400)
    (hx : x ≠ []) (hxl : x.length ≤ 2) (hy : y ≠ []) (hyl : y.length ≤ 2) (hz : z ≠ []) (hzl : z.length ≤ 2) (hr : r.length ≤ 12) (hrx : (reprText (S x)).length ≤ 500) (hry : (reprText (S y)).length ≤ 500) (hrz : (reprText (S z)).length ≤ 500)
    (hlw : (lw, W.listOf (List.toArray [.str (S x) tx, .str (S y) ty, .str (S z) tz]) n) ∈ news)
    (hlj : (lj, W.listOf (List.toArray [.ref j1, .ref j2, .ref j3]) n1) ∈ news)
    (hj1 : (j1, W.listOf (List.toArray [.str (S []) a1, .str (S x) a2, .str (S []) a3]) n2) ∈ news)
    (hj2 : (j2, W.listOf (List.toArray [.str (S []) b1, .str (S x) b2, .str (S y) b3, .str (S []) b4]) n3) ∈ news)
    (hj3 : (j3, W.listOf (List.toArray [.str (S []) c1, .str (S x) c2, .str (S y) c3, .str (S z) c4, .str (S []) c5]) n4) ∈ news)
    (hret : ∀ v h' tk, s.heap.StaysIn h' → Tells v (toldV r [x, y, z] strict) → Q v { s with heap := h', toks := tk }) :
    wpAny (MD w) (ar none dp un gd env outer) (call (.ref 162) [.str (S r) t0, .ref lw, .ref lj, .bool strict]) Q E s :=
  EC_told.ck9.2 EC_told.kk9 ((((((w, base), h₀), ((outer, L), m)), (((env, news), dp), (un, gd))), ((((s, Q), E), ((r, x), y)), (((z, n), n1), (n2, n3)))), (((((n4, lw), lj), ((j1, j2), j3)), (((t0, tx), ty), (tz, a1))), ((((a2, a3), b1), ((b2, b3), b4)), (((c1, c2), c3), (c4, c5))))) (strict := strict) am hdp hx hxl hy hyl hz hzl hr hrx hry hrz hlw hlj hj1 hj2 hj3 hret
end
end Mine
end
theorem Mine.e9s11 : True := trivial
section
open PySem PySem.Spec PySem.Calls PyProof.Rows PySem.W PyProof.V
set_option maxHeartbeats 4000000
namespace Mine
section
variable {prog : Program} {w : World} {A : Around} {E : Value → Shared → Prop} {s : Shared} {env : Env}
noncomputable abbrev itO (l : Addr) (i : Nat) : Obj := { cls := .type "list_iterator", data := .fields #[.ref l, .int (i : Nat) 0] }
theorem r_iter {h₀ : Heap} {L l : Addr} {m : Str → Option Value} {news : List (Addr × Obj)} {vs : List Value} {n : Nat} {Q : Value → Shared → Prop} (F : Fr h₀ L s.heap m) (N : News h₀ L s.heap news) (hm : (l, listOf (List.toArray vs) n) ∈ news)
    (h : ∀ I h', Fr h₀ L h' m → News h₀ L h' ((I, itO l 0) :: news) → (∀ p ∈ news, p.1 < I) → Q (.ref I) { s with heap := h' }) :
    wpAny (model prog w) A (call (.builtin "iter") [.ref l]) Q E s := by
  refine call_function_entry (by decide +kernel) (by decide +kernel) kdk_entry_iter (kdk_args_iter _) ?_
  unfold Builtin.«iter»
  refine wpAny_bind (m := someArgs "iter" 1 2 _) (wpAny_of_eq (a := [Value.ref l]) (by first | rfl | kernel_rfl!) ?_)
  show wpAny _ _ (pyIter (.ref l) >>= _) _ _ _
  refine wpAny_bind (wpAny_pyIter_list (N.isList hm) ?_)
  exact wpAny_pure ⟨_, rfl, h _ _ (F.push _) (News.push F N _ rfl) (fun q hq => Heap.lt_size (N q hq).1)⟩
noncomputable def ForEnd (Inv : Nat → Shared → Prop) (Q : Flow → Shared → Prop) (i : Nat) (f : Flow) (s : Shared) : Prop :=
  match f with
  | .ret v => Q (.ret v) s
  | .brk => Q .next s
  | _ => Inv (i + 1) s
theorem forW {target : Expr} {body : List Stmt} {I : Addr} {fp wr : List Addr} {n : Nat} {P : Nat → Value → Prop} {St : Nat → Heap → Prop} {Q : Flow → Shared → Prop} (W : Walks prog w A I fp wr n P St)
    (hgo : ∀ i v (s' : Shared) (Q' : Unit → Shared → Prop) (E' : Value → Shared → Prop), St i s'.heap → Q' () s' → wpAny (model prog w) A (letOwnedTupleGo target (.ref I) v) Q' E' s')
    (Inv : Nat → Shared → Prop) (h0 : Inv 0 s) (hst : ∀ i s', Inv i s' → St i s'.heap)
    (step : ∀ i v s₁ h' tk', i < n → Inv i s₁ → P i v → St (i + 1) h' → (∀ b o, b ∉ wr → s₁.heap.get? b = some o → h'.get? b = some o) →
      wpAny (model prog w) A (assign target env v) (fun _ s₂ => wpAny (model prog w) A (execs body env) (ForEnd Inv Q i) E s₂) E { s₁ with heap := h', toks := tk' })
    (done : ∀ s₁ h' tk', Inv n s₁ → (∀ b o, b ∉ wr → s₁.heap.get? b = some o → h'.get? b = some o) → Q .next { s₁ with heap := h', toks := tk' })
    (hE : PassesOwn (model prog w) A env E := by passes_own) :
    codeAny (model prog w) A (.forLoop target (.ref I) body [] env) (fun r s' => match r with | .ok f => Q f s' | .error e => cameBackBy (model prog w) A env E e s') s := by
  refine codeAny_forLoop_any (fun k s' => ∃ i, i ≤ n ∧ k = n + 1 - i ∧ Inv i s') ?_ (n + 1) ⟨0, Nat.zero_le _, rfl, h0⟩
  rintro k s' ⟨i, hi, rfl, hI⟩
  by_cases hlt : i < n
  · refine W.item i _ _ _ hlt (hst i s' hI) fun v h₁ tk₁ hP hst₁ hk₁ => ?_
    refine hgo (i + 1) v _ _ _ hst₁ ?_
    refine wpAny_mono (step i v s' h₁ tk₁ hlt hI hP hst₁ hk₁) (fun _ s₂ h₂ => wpAny_mono (wpAny_passesOwn hE h₂) (fun f s₃ h₃ => ?_) fun _ _ e => e) hE
    cases f with
    | ret v => exact h₃
    | brk => exact h₃
    | cont => exact ⟨n + 1 - (i + 1), by omega, i + 1, hlt, rfl, h₃⟩
    | next => exact ⟨n + 1 - (i + 1), by omega, i + 1, hlt, rfl, h₃⟩
  · have hin : i = n := by omega
    subst hin
    exact W.done _ _ _ (hst i s' hI) fun h₁ tk₁ hk₁ => wpAny_execs_nil (done s' h₁ tk₁ hI hk₁)
theorem enterL {A₀ : Around} {base h₀ : Heap} {outer : List Env} {L : Addr} {m : Str → Option Value} {tb news : List (Addr × Obj)} {R : Result → Shared → Prop} {name qual : Str} {params : Arguments} {body : Expr} {scope : Scope} {cl : List (Str × Addr)} {pm ctv : Value} {c' f : Addr} {args : Args} {binds : List (Str × Value)}
    (B : Below A₀ base outer h₀) (F : Fr h₀ L s.heap m) (N0 : News h₀ L s.heap news) (htb : ∀ p ∈ tb, p ∈ news) (hlim : h₀.NoLimit) (hA : A.frames = some (env :: outer)) (hf : env.frame = some L) (hke : env.scope.kind = .function)
    (ho : s.heap.get? f = some (kla_obj name qual params body scope cl pm c' ctv)) (hcd : s.heap.CodeRec (.ref c') qual) (hroom : A.depth < recursionLimit)
    (hbind : bindArgs (kla_fn name qual params body scope cl pm (.ref c') ctv) args = pure binds) (hloc : ∀ y ∈ binds, scope.names.lookup y.1 = some .local)
    (h : ∀ g L' h₁ tk, g = hideAll s.heap (tb.map (·.1)) → Fr g L' h₁ (fun y => binds.reverse.lookup y) → News g L' h₁ tb → Below A base (env :: outer) g →
      h₀.StaysIn g → (∀ p ∈ tb, p.1 < L') →
      wpAny (model prog w) (A.deeper (envX qual scope L' f (.ref c') cl)) (eval body (envX qual scope L' f (.ref c') cl))
        (fun v s' => R (.ok (.ret v)) s')
        (fun e s' => wpAny (model prog w) (A.deeper (envX qual scope L' f (.ref c') cl)) (leaving (envX qual scope L' f (.ref c') cl) e) (fun _ s'' => R (.error e) s'') (fun e' s'' => R (.error e') s'') s')
        { s with heap := h₁, toks := tk })
    (hcell : ∀ x ∈ scope.names, x.2 ≠ .cell) (hco : scope.isCoroutine = false := by rfl) (hgen : scope.isGenerator = false := by rfl) (hk : scope.kind = .function := by rfl) : codeAny (model prog w) A (.call (.ref f) args) R s := by
  have N : News h₀ L s.heap tb := cb_drop N0 htb
  obtain ⟨FG, BG, st, lv⟩ := groundX (R := R) B F N hA hf hke
  refine kla_callFunE hroom ho rfl hco hgen rfl hcd ?_
  rw [hbind]
  refine wpAny_pure (wpAny_newFunctionEnv hcell hloc (fun h₁ hns hsb => ⟨(hlim.keeps F.keep).fresh _ hsb, ?_⟩) hk)
  show codeAny _ _ (.expr body (envX qual scope s.heap.objs.size f (.ref c') cl)) _ _
  have hk₁ : ∀ b o, s.heap.get? b = some o → h₁.get? b = some o := fun b o e => hsb.extBut b o (Nat.ne_of_lt (Heap.lt_size e)) (Heap.get?_push_of_some _ e)
  exact kla_codeExpr (h _ s.heap.objs.size h₁ _ rfl ⟨hns, fun b o e => hk₁ b o (of_hideAll _ e), Nat.le_of_eq (hideAll_size _ _)⟩
    (fun p hp => ⟨hk₁ _ _ (N p hp).1, Nat.ne_of_lt (Heap.lt_size (N p hp).1), hideAll_none _ (List.mem_map_of_mem hp)⟩) BG st (fun p hp => Heap.lt_size (N p hp).1))
end
theorem leaveE3 {M : Model} {A : Around} {E : Value → Shared → Prop} {s' : Shared} {base g G0 G : Heap} {outer : List Env} {L e t : Addr} {env : Env} {x : Str} {Q : Unit → Shared → Prop}
    (K : Below A base outer g) (hf : env.frame = some L) (LG : G0.get? L = none) (t53 : G0.get? 53 = none) (tG : Turned (frs outer) G0 G) (R : FlyE base (hideAll G [53]) (env :: outer) e t x s'.heap)
    (hQ : ∀ h', FlyE base G0 outer e t x h' → Q () { s' with heap := h' }) : wpAny M (A.deeper env) (leaving env (.ref e)) Q E s' := by
  obtain ⟨⟨B, b1, b2, b3, b4, b5⟩, ⟨k, hk⟩, hu, hne, hnt⟩ := R
  have none0 : ∀ b, b ≠ 53 → (hideAll G [53]).get? b = none → G0.get? b = none := fun b nb q => by
    cases z : G0.get? b with
    | none => rfl
    | some o =>
      obtain ⟨sl, hs⟩ := tG.up z
      rw [hideAll_get [53] hs (fun hm => nb (List.mem_singleton.mp hm))] at q; cases q
  have b53 : ∃ o, B.get? 53 = some o := by
    obtain ⟨c', oc, vc, tc, a1, _⟩ := b3
    exact ⟨_, a1⟩
  obtain ⟨o53, b53⟩ := b53
  have n53  : ∀ b o, G0.get? b = some o → b ∉ [53] := fun b o q hm => by
    rw [List.mem_singleton.mp hm, t53] at q; cases q
  refine wpAny_leaves_onW (Around.frames_deeper K.stack) hf b4 fun h' x1 x2 => hQ h' ⟨⟨B, fun b o q nb => b1 b o (hideAll_get _ (tG.other b o q nb) (n53 b o q)) (fun hm => ?_), b2, b3, x1, b5⟩, ⟨k, hk.of_slots x2⟩, ?_, none0 _ (fun q => by have z := b4.2.1; rw [q, b53] at z; cases z) hne, none0 _ (fun q => by rw [q, b53] at b5; cases b5) hnt⟩
  · have hm : b ∈ (env :: outer).filterMap (·.frame) := hm
    rw [List.filterMap_cons_some hf] at hm
    rcases List.mem_cons.mp hm with z | z
    · rw [z, LG] at q; cases q
    · exact nb z
  · have up0 : G0.UpToSlots (hideAll G [53]) := fun b o q _ => by
      obtain ⟨sl, hs⟩ := tG.up q
      exact ⟨sl, hideAll_get _ hs (n53 b o q)⟩
    exact (up0.trans hu).trans x2
theorem Turned.hide {fs l : List Addr} {g h : Heap} (t : Turned fs g h) : Turned fs (hideAll g l) h := ⟨fun b o e nb => t.other b o (of_hideAll _ e) nb, fun b o e hb => t.frame b o (of_hideAll _ e) hb⟩
noncomputable def LamOk (w : World) (base : Heap) (f : Addr) (tbF : List (Addr × Obj)) (src : List Nat) (strict : Bool) (D : Nat) : Prop :=
  ∀ {h₀ : Heap} {L : Addr} {m : Str → Option Value} {env : Env} {outer : List Env} {news : List (Addr × Obj)} {dp un : Nat} {gd : Option (List Code)} {s : Shared} {Q E : Value → Shared → Prop} {p : Nat} {x : List Nat} {t1 t2 : Tok},
    Amb w base h₀ L m env outer news s.heap → (∀ q ∈ tbF, q ∈ news) → dp < D → un < 4500 → p ≤ 150 → x.length ≤ 2 → x ≠ [] → (reprText (S x)).length ≤ 500 →
    (∀ (np : Nat) t' h' tk, Turned (frs (env :: outer)) s.heap h' → skipV src x p strict = .inr np → Q (.int ((np + x.length : Nat) : Int) t') { s with heap := h', toks := tk }) →
    (∀ e t y h' tk, FlyE base (hideAll s.heap [53]) (env :: outer) e t y h' → skipV src x p strict = .inl y → E (.ref e) { s with heap := h', toks := tk }) →
    wpAny (MD w) (ar none dp un gd env outer) (call (.ref f) [.int (p : Nat) t1, .str (S x) t2]) Q E s
end Mine
end
section
open PySem PySem.Spec PySem.Calls PyProof.Rows PySem.W
set_option maxHeartbeats 4000000
namespace Mine
theorem kw30 : True := by
  (k_with "9exec For Name Name cons nil" => ((fail_if_success first | have := @Mine.e9s12 | fail); with_unfolding_all (first | with_reducible refine stopS3 ?_ | refine stopS3 ?_)))
  (k_with "9call ref" => ((fail_if_success first | have := @Mine.e9s12 | fail); with_unfolding_all (first | with_reducible refine stopC3 ?_ | refine stopC3 ?_)))
  (k_with "9call builtin:iter" => ((fail_if_success first | have := @Mine.e9s12 | fail); with_unfolding_all walk_at "nm"; (first | with_reducible refine r_iter (vs := vs) F' N' (by k_mem) ?_ | refine r_iter (vs := vs) F' N' (by k_mem) ?_); intro I' h' F' N' l1; try k_lt l1))
  (k_with "9compareOp Is int ref" => ((fail_if_success first | have := @Mine.e9s12 | fail); refine wpAny_is_other (by rfl) (by intro x; cases x) ?_))
  (k_with "9callWith ref" => ((fail_if_success first | have := @Mine.e9s12 | fail); k_here; with_unfolding_all refine' callWith_F ?k1 ?_; (case k1 => exact FnAt.of (by k_asm) (by k_mem)); k_whole))
  trivial
theorem skipV_le {src x : List Nat} {p np : Nat} {strict : Bool} (hx : x ≠ []) (h : skipV src x p strict = .inr np) : np ≤ src.length := by
  rw [skipV] at h
  have ht : ∀ {q : Nat}, tailV src p q = .inr np → np = q := fun {q} h => by
    rw [tailV] at h
    split at h
    · cases h
    · cases h; rfl
  cases q : fnd x (src.drop p) with
  | none =>
    rw [q] at h
    cases strict with
    | true => cases h
    | false => exact Nat.le_of_eq (ht h)
  | some i =>
    rw [q] at h
    have := fnd_lt hx q
    rw [List.length_drop] at this
    have := ht h
    omega
theorem FrBut {g h h' : Heap} {L I : Addr} {m : Str → Option Value} (F : Fr g L h m) (hk : ∀ b o, b ∉ [I] → h.get? b = some o → h'.get? b = some o) (hn : g.get? I = none) (hL : L ≠ I) : Fr g L h' m := by
  obtain ⟨oL, es, ep, h1, r⟩ := F.ns
  exact ⟨⟨oL, es, ep, hk _ _ (fun z => hL (List.mem_singleton.mp z)) h1, r⟩, fun b x q => hk _ _ (fun z => by rw [List.mem_singleton.mp z, hn] at q; cases q) (F.keep _ _ q), F.above⟩
theorem strs_at {vs : List Value} {ws : List (List Nat)} (h : StrsAre vs (ws.map S)) {i : Nat} {v : Value} (hv : vs[i]? = some v) : ∃ x t, ws[i]? = some x ∧ v = .str (S x) t := by
  induction ws generalizing vs i with
  | nil => cases h; simp at hv
  | cons a ws ih =>
    cases h with
    | cons _ t h =>
      cases i with
      | zero => cases hv; exact ⟨a, t, rfl, rfl⟩
      | succ i =>
        obtain ⟨x, t', h1, h2⟩ := ih h (by simpa using hv)
        exact ⟨x, t', by simpa using h1, h2⟩
section
variable {w : World} {base h₀ : Heap} {outer : List Env} {L : Addr} {m : Str → Option Value} {env : Env} {news : List (Addr × Obj)}
  {hd : Option Value} {dp un : Nat} {gd : Option (List Code)} {s : Shared} {Q E : Value → Shared → Prop}
end
namespace EC_red
noncomputable def Pk9 (w : World) (base : Heap) (h₀ : Heap) (outer : List Env) (L : Addr) (m : Str → Option Value) (env : Env) (news : List (Addr × Obj)) (dp : Nat) (un : Nat) (gd : Option (List Code)) (s : Shared) (Q : Value → Shared → Prop) (E : Value → Shared → Prop) (src : List Nat) (strict : Bool) (ws : List (List Nat)) (vs : List Value) (n : Nat) (f : Addr) (lw : Addr) (a1 : Addr) (a2 : Addr) (a3 : Addr) (b : Addr) (c' : Addr) (c9 : Addr) (o1 : Obj) (o2 : Obj) (o3 : Obj) (o : Obj) (oc : Obj) (ob : Obj) (oc9 : Obj) (t1 : Tok) (nm : Str) (ql : Str) (pr : Arguments) (bd : Expr) (sc : Scope) (clo : List (Str × Addr)) (pmv : Value) (ctv : Value) : Prop := ∀ (am : Amb w base h₀ L m env outer news s.heap) (hdp : dp < 320) (hun : un < 4000) (XB : (Mine.hd0.heap_1 w.params).In base) (hTB : Ex5 fun p loose mean mg mb => Top p loose mean mg mb base) (h2 : src.length ≤ 100) (hws : ∀ x ∈ ws, x ≠ [] ∧ x.length ≤ 2 ∧ (reprText (S x)).length ≤ 500) (hvs : StrsAre vs (ws.map S)) (hn : ws.length ≤ 100) (hlw : (lw, W.listOf (List.toArray vs) n) ∈ news) (htF : ∀ q ∈ [(f, kla_obj nm ql pr bd sc clo pmv c9 ctv), (a1, o1), (a2, o2), (a3, o3), (53, o), (c', oc), (b, ob), (c9, oc9)], q ∈ news) (hL : LamOk w base f [(f, kla_obj nm ql pr bd sc clo pmv c9 ctv), (a1, o1), (a2, o2), (a3, o3), (53, o), (c', oc), (b, ob), (c9, oc9)] src strict 399) (hret : ∀ (np : Nat) t' h' tk, Turned (frs (env :: outer)) s.heap h' → walkV src strict ws 1 = .inr np → Q (.int (np : Nat) t') { s with heap := h', toks := tk }) (hE : ∀ e t y h' tk, FlyE base (hideAll s.heap [53]) (env :: outer) e t y h' → walkV src strict ws 1 = .inl y → E (.ref e) { s with heap := h', toks := tk }),
    wpAny (MD w) (ar none dp un gd env outer) (call (.ref 105) [.ref f, .ref lw, .int 1 t1]) Q E s
noncomputable def Pu9 (x : (((((((World) × (Heap)) × (Heap)) × (((List Env) × (Addr)) × (Str → Option Value))) × ((((Env) × (List (Addr × Obj))) × (Nat)) × ((Nat) × (Option (List Code))))) × (((((Shared) × (Value → Shared → Prop)) × (Value → Shared → Prop)) × (((List Nat) × (Bool)) × (List (List Nat)))) × ((((List Value) × (Nat)) × (Addr)) × ((Addr) × (Addr))))) × ((((((Addr) × (Addr)) × (Addr)) × (((Addr) × (Addr)) × (Obj))) × ((((Obj) × (Obj)) × (Obj)) × ((Obj) × (Obj)))) × (((((Obj) × (Tok)) × (Str)) × ((Str) × (Arguments))) × ((((Expr) × (Scope)) × (List (Str × Addr))) × ((Value) × (Value))))))) : Prop := Pk9 x.1.1.1.1.1.1 x.1.1.1.1.1.2 x.1.1.1.1.2 x.1.1.1.2.1.1 x.1.1.1.2.1.2 x.1.1.1.2.2 x.1.1.2.1.1.1 x.1.1.2.1.1.2 x.1.1.2.1.2 x.1.1.2.2.1 x.1.1.2.2.2 x.1.2.1.1.1.1 x.1.2.1.1.1.2 x.1.2.1.1.2 x.1.2.1.2.1.1 x.1.2.1.2.1.2 x.1.2.1.2.2 x.1.2.2.1.1.1 x.1.2.2.1.1.2 x.1.2.2.1.2 x.1.2.2.2.1 x.1.2.2.2.2 x.2.1.1.1.1.1 x.2.1.1.1.1.2 x.2.1.1.1.2 x.2.1.1.2.1.1 x.2.1.1.2.1.2 x.2.1.1.2.2 x.2.1.2.1.1.1 x.2.1.2.1.1.2 x.2.1.2.1.2 x.2.1.2.2.1 x.2.1.2.2.2 x.2.2.1.1.1.1 x.2.2.1.1.1.2 x.2.2.1.1.2 x.2.2.1.2.1 x.2.2.1.2.2 x.2.2.2.1.1.1 x.2.2.2.1.1.2 x.2.2.2.1.2 x.2.2.2.2.1 x.2.2.2.2.2
noncomputable def ck9 : {x : _ // Pu9 x → ∀ y, Pu9 y} := Classical.choice (drink (by repeat (first | exact neS | exact neW | exact neA | refine ne2 ?_ ?_ | exact ⟨default⟩ | exact ⟨fun _ _ => True⟩ | exact ⟨fun _ => True⟩ | exact ⟨fun _ => default⟩ | exact ⟨fun _ _ => default⟩)))
noncomputable def w : World := ck9.1.1.1.1.1.1.1
noncomputable def base : Heap := ck9.1.1.1.1.1.1.2
noncomputable def h₀ : Heap := ck9.1.1.1.1.1.2
noncomputable def outer : List Env := ck9.1.1.1.1.2.1.1
noncomputable def L : Addr := ck9.1.1.1.1.2.1.2
noncomputable def m : Str → Option Value := ck9.1.1.1.1.2.2
noncomputable def env : Env := ck9.1.1.1.2.1.1.1
noncomputable def news : List (Addr × Obj) := ck9.1.1.1.2.1.1.2
noncomputable def dp : Nat := ck9.1.1.1.2.1.2
noncomputable def un : Nat := ck9.1.1.1.2.2.1
noncomputable def gd : Option (List Code) := ck9.1.1.1.2.2.2
noncomputable def s : Shared := ck9.1.1.2.1.1.1.1
noncomputable def Q : Value → Shared → Prop := ck9.1.1.2.1.1.1.2
noncomputable def E : Value → Shared → Prop := ck9.1.1.2.1.1.2
noncomputable def src : List Nat := ck9.1.1.2.1.2.1.1
noncomputable def strict : Bool := ck9.1.1.2.1.2.1.2
noncomputable def ws : List (List Nat) := ck9.1.1.2.1.2.2
noncomputable def vs : List Value := ck9.1.1.2.2.1.1.1
noncomputable def n : Nat := ck9.1.1.2.2.1.1.2
noncomputable def f : Addr := ck9.1.1.2.2.1.2
noncomputable def lw : Addr := ck9.1.1.2.2.2.1
noncomputable def a1 : Addr := ck9.1.1.2.2.2.2
noncomputable def a2 : Addr := ck9.1.2.1.1.1.1.1
noncomputable def a3 : Addr := ck9.1.2.1.1.1.1.2
noncomputable def b : Addr := ck9.1.2.1.1.1.2
noncomputable def c' : Addr := ck9.1.2.1.1.2.1.1
noncomputable def c9 : Addr := ck9.1.2.1.1.2.1.2
noncomputable def o1 : Obj := ck9.1.2.1.1.2.2
noncomputable def o2 : Obj := ck9.1.2.1.2.1.1.1
noncomputable def o3 : Obj := ck9.1.2.1.2.1.1.2
noncomputable def o : Obj := ck9.1.2.1.2.1.2
noncomputable def oc : Obj := ck9.1.2.1.2.2.1
noncomputable def ob : Obj := ck9.1.2.1.2.2.2
noncomputable def oc9 : Obj := ck9.1.2.2.1.1.1.1
noncomputable def t1 : Tok := ck9.1.2.2.1.1.1.2
noncomputable def nm : Str := ck9.1.2.2.1.1.2
noncomputable def ql : Str := ck9.1.2.2.1.2.1
noncomputable def pr : Arguments := ck9.1.2.2.1.2.2
noncomputable def bd : Expr := ck9.1.2.2.2.1.1.1
noncomputable def sc : Scope := ck9.1.2.2.2.1.1.2
noncomputable def clo : List (Str × Addr) := ck9.1.2.2.2.1.2
noncomputable def pmv : Value := ck9.1.2.2.2.2.1
noncomputable def ctv : Value := ck9.1.2.2.2.2.2
theorem kk9 : Pk9 w base h₀ outer L m env news dp un gd s Q E src strict ws vs n f lw a1 a2 a3 b c' c9 o1 o2 o3 o oc ob oc9 t1 nm ql pr bd sc clo pmv ctv := by
  intro am hdp hun XB hTB h2 hws hvs hn hlw htF hL hret hE
  have htb : ∀ q ∈ [(lw, W.listOf (List.toArray vs) n), (f, kla_obj nm ql pr bd sc clo pmv c9 ctv), (a1, o1), (a2, o2), (a3, o3), (53, o), (c', oc), (b, ob), (c9, oc9)], q ∈ news := List.forall_mem_cons.mpr ⟨hlw, htF⟩
  have mk9 : Clm := ⟨trivial⟩
  obtain ⟨⟨A₀, B⟩, F, X, N, ⟨p, loose, mean, mg, mb, T⟩, hf, hke⟩ := am
  have XX := Frag.In.keeps X (Fr.keep F)
  have hK : (fun (_ : OpenLaw) (_ : Params → Frag) => True) PySem.Challenge.rw_rx0047_01 Mine.hd0.heap_1 := by (k_fill; trivial)
  refine' wpAny_call (enter (binds := [(Str.ofString "function", .ref f), (Str.ofString "sequence", .ref lw), (Str.ofString "initial", .int 1 t1)]) B F N htb (Top.nolimit T) rfl hf hke ?ho_e16 ?hd_e16 ?hcd_e16 ?hroom_e16 ?hbind_e16 ?hloc_e16 ?h_e16 ?hcell_e16 ?hco_e16 ?hgen_e16 ?hk_e16)
  (case ho_e16 => exact XX _ _ (by k_is))
  (case hd_e16 => exact rfl)
  (case hcd_e16 => exact codeRec_of XX (by k_is))
  (case hroom_e16 => exact Nat.lt_of_lt_of_le hdp (by decide))
  (case hbind_e16 => first | exact BindsTo.of_eq rfl | exact binds_K XX rfl (by k_is) rfl rfl rfl)
  (case hloc_e16 => exact locs rfl)
  (case hcell_e16 => decide)
  (case hco_e16 => exact rfl)
  (case hgen_e16 => exact rfl)
  (case hk_e16 => exact rfl)
  intro g L' h₁ tk₁ hg F' N' B' st l1
  have X' := Frag.In.keeps X st
  have T' := Top.keeps T st
  (try k_lt l1)
  (try dsimp only)
  (try k_fold)
  clear hK
  (try revert T')
  (try revert X')
  (try revert l1)
  (try revert st)
  (try revert B')
  (try revert N')
  (try revert F')
  (try revert hg)
  (try revert hK)
  (try revert XX)
  (try revert hke)
  (try revert hf)
  (try revert T)
  (try revert N)
  (try revert X)
  (try revert F)
  (try revert B)
  (repeat ((rename (_ : Prop) => z9); (fail_if_success (have : Clm := z9)); revert z9))
  revert A₀ p loose mean mg mb g L' h₁ tk₁
  (refine no_implicit_lambda% (close10 12223 ?ne_e1 (R := ?R_e1) ((?nw_e1 : ∀ A₀ p loose mean mg mb g L' h₁ tk₁, ?R_e1 A₀ p loose mean mg mb g L' h₁ tk₁) (Mine.cl 12223 ?ne_e1 (un10 ?R_e1)).1.1.1.1 (Mine.cl 12223 ?ne_e1 (un10 ?R_e1)).1.1.1.2 (Mine.cl 12223 ?ne_e1 (un10 ?R_e1)).1.1.2 (Mine.cl 12223 ?ne_e1 (un10 ?R_e1)).1.2.1 (Mine.cl 12223 ?ne_e1 (un10 ?R_e1)).1.2.2 (Mine.cl 12223 ?ne_e1 (un10 ?R_e1)).2.1.1.1 (Mine.cl 12223 ?ne_e1 (un10 ?R_e1)).2.1.1.2 (Mine.cl 12223 ?ne_e1 (un10 ?R_e1)).2.1.2 (Mine.cl 12223 ?ne_e1 (un10 ?R_e1)).2.2.1 (Mine.cl 12223 ?ne_e1 (un10 ?R_e1)).2.2.2)))
  (case ne_e1 => repeat (first | exact ⟨default⟩ | exact neS | exact neW | exact neA | refine ne2 ?_ ?_))
  intro A₀ p loose mean mg mb g L' h₁ tk₁
  (set_option tactic.hygienic false in intros)
  have mk9 : Clm := ⟨trivial⟩
  have fo9 : FoldOn := ⟨trivial⟩
  obtain ⟨pB, looseB, meanB, mgB, mbB, TB⟩ := hTB
  k_steps
  unfold Hold
  walk_at "nm"
  refine wpAny_For ?_
  k_steps
  have hit0 : ∀ {h : Heap} {i : Nat}, h.get? I' = some (itO lw i) → h.IsListIter I' lw i := fun e => ⟨_, e, rfl, rfl⟩
  refine wpAny_pyIter_listiter (hit0 (N' (I', itO lw 0) (by k_mem)).1) ?_
  have hIL : lw ≠ I' := Nat.ne_of_lt (by first | exact l1 | exact l1.1)
  refine forW (Walks.list rfl I' lw hIL (List.toArray vs)) (fun i v s Q E st q => letGo_listiter st.1 q)
    (fun i s₁ => Ex7 fun g1 h1 tk1 m1 oI pi t => s₁ = { s with heap := h1, toks := tk1 } ∧ KtsTurn (frs (env :: outer)) g g1 ∧ Below (ar none dp un gd env outer) base (env :: outer) g1 ∧ Fr g1 L' h1 m1 ∧ News g1 L' h1 [(I', oI), (lw, W.listOf (List.toArray vs) n), (f, kla_obj nm ql pr bd sc clo pmv c9 ctv), (a1, o1), (a2, o2), (a3, o3), (53, o), (c', oc), (b, ob), (c9, oc9)] ∧
      oI.cls = .type "list_iterator" ∧ oI.data = .fields #[.ref lw, .int (i : Nat) 0] ∧ (∀ q ∈ [(Str.ofString "value", Value.int (pi : Nat) t)], m1 q.1 = some q.2) ∧ (∀ z, (∀ q ∈ [(Str.ofString "value", Value.int (pi : Nat) t)], z ≠ q.1) → [Str.ofString "element"].contains z = false → m1 z = (fun y => if y = Str.ofString "it" then some (Value.ref I') else List.lookup y [(Str.ofString "function", Value.ref f), (Str.ofString "sequence", Value.ref lw), (Str.ofString "initial", Value.int 1 t1)].reverse) z) ∧
      pi ≤ 110 ∧ walkV src strict (ws.drop i) pi = walkV src strict ws 1) ?h0 ?hst ?step ?done
  case h0 =>
    refine ⟨g, _, _, _, _, 1, t1, rfl, .refl, B', F', N', rfl, rfl, List.forall_mem_cons.mpr ⟨rfl, List.forall_mem_nil _⟩, ?_, by omega, rfl⟩
    intro z hz _
    have hz : z ≠ Str.ofString "value" := hz _ (List.mem_cons_self ..)
    exact if_neg hz
  case hst =>
    rintro i s₁ ⟨g1, h1, tk1, m1, oI, pi, t, rfl, kt, K1, F1, N1, c1, d1, _⟩
    exact ⟨⟨oI, (N1 (I', oI) (.head _)).1, c1, d1⟩, N1.isList (a := lw) (by k_mem)⟩
  case step =>
    clear F' N'
    rintro i v s₁ h5 tk5 hi ⟨g1, h1, tk1, m1, oI, pi, t, rfl, kt, K1, F1, N1, c1, d1, e1, e2, hpi, hwk⟩ hv ⟨⟨oI2, hI2, c2, d2⟩, _⟩ hk
    have hv : (List.toArray vs)[i]? = some v := hv
    obtain ⟨x, tx, hx, rfl⟩ := strs_at hvs (by simpa using hv)
    obtain ⟨x1, x2, x3⟩ := hws x (List.mem_of_getElem? hx)
    have hlt : ∀ q ∈ [(lw, W.listOf (List.toArray vs) n), (f, kla_obj nm ql pr bd sc clo pmv c9 ctv), (a1, o1), (a2, o2), (a3, o3), (53, o), (c', oc), (b, ob), (c9, oc9)], q.1 < I' := by
      repeat (first | exact List.forall_mem_nil _ | refine List.forall_mem_cons.mpr ⟨by (show (_ : Nat) < I'); omega, ?_⟩)
    have F' := FrBut (ksw_fr e1 e2 F1) hk (N1 (I', oI) (.head _)).2.2 (N1 (I', oI) (.head _)).2.1.symm
    have N' : News g1 L' h5 [(I', oI2), (lw, W.listOf (List.toArray vs) n), (f, kla_obj nm ql pr bd sc clo pmv c9 ctv), (a1, o1), (a2, o2), (a3, o3), (53, o), (c', oc), (b, ob), (c9, oc9)] :=
      List.forall_mem_cons.mpr ⟨⟨hI2, (N1 (I', oI) (.head _)).2⟩, fun q hq => ⟨hk _ _ (fun z => Nat.ne_of_lt (hlt q hq) (List.mem_singleton.mp z)) (N1 q (.tail _ hq)).1, (N1 q (.tail _ hq)).2⟩⟩
    dsimp only [kstB] at F'
    clear B' X' T'
    have B' := K1
    have X' := XB.keeps K1.stays
    have T' := TB.keeps K1.stays
    have hnx : walkV src strict (ws.drop i) pi = match skipV src x pi strict with
        | .inl y => .inl y
        | .inr np => walkV src strict (ws.drop (i + 1)) (np + x.length) := by
      obtain ⟨hlt2, ex⟩ := List.getElem?_eq_some_iff.mp hx
      rw [List.drop_eq_getElem_cons hlt2, ex]; rfl
    k_steps
    unfold Hold
    walk_at "nm"
    refine hL ⟨⟨_, B'⟩, F', X', N', ⟨_, _, _, _, _, T'⟩, rfl, rfl⟩ (by repeat (first | exact List.forall_mem_nil _ | refine List.forall_mem_cons.mpr ⟨by k_mem, ?_⟩)) (by show dp + 1 < 399; omega) (by show un + 3 < 4500; omega) (by omega) x2 x1 x3 ?ok ?err
    case ok =>
      intro np t6 h6 tk6 u6 hsk
      obtain ⟨g2, kt2, F7, N7, K7⟩ := reground B' F' N' u6
      clear F' N'
      have F' := F7
      have N' := N7
      clear F7 N7 B' X' T'
      have B' := K7
      have X' := XB.keeps K7.stays
      have T' := TB.keeps K7.stays
      k_steps
      walk_at "nm"
      refine ⟨g2, _, _, _, oI2, np + x.length, _, rfl, kt.trans kt2, K7, F', cb_drop N' (by repeat (first | exact List.forall_mem_nil _ | refine List.forall_mem_cons.mpr ⟨by k_mem, ?_⟩)), c2, d2, List.forall_mem_cons.mpr ⟨rfl, List.forall_mem_nil _⟩, ?_, ?_, ?_⟩
      · ksw_same
      · have := skipV_le x1 hsk
        omega
      · rw [← hwk, hnx, hsk]
    case err =>
      intro e t9 y h6 tk6 fl hsk
      refine leaveE3 (L := L') B' rfl (noneG hg (fun q hq => (N' q (.tail _ hq)).2.1) (turn_none kt (kts_self F'))) (hideAll_none _ (List.mem_singleton.mpr rfl)) (turnedF hg (fun q hq => (N q (htb q hq)).1) (fun q hq => (N' q (.tail _ hq)).1) kt F'.keep).hide fl fun h9 fl9 => ?_
      exact hE e t9 y h9 _ fl9 (by rw [← hwk, hnx, hsk])
  case done =>
    clear F' N'
    rintro s₁ h5 tk5 ⟨g1, h1, tk1, m1, oI, pi, t, rfl, kt, K1, F1, N1, c1, d1, e1, e2, hpi, hwk⟩ hk
    have F' := FrBut (ksw_fr e1 e2 F1) hk (N1 (I', oI) (.head _)).2.2 (N1 (I', oI) (.head _)).2.1.symm
    have hlt : ∀ q ∈ [(lw, W.listOf (List.toArray vs) n), (f, kla_obj nm ql pr bd sc clo pmv c9 ctv), (a1, o1), (a2, o2), (a3, o3), (53, o), (c', oc), (b, ob), (c9, oc9)], q.1 < I' := by
      repeat (first | exact List.forall_mem_nil _ | refine List.forall_mem_cons.mpr ⟨by (show (_ : Nat) < I'); omega, ?_⟩)
    have N' : News g1 L' h5 [(lw, W.listOf (List.toArray vs) n), (f, kla_obj nm ql pr bd sc clo pmv c9 ctv), (a1, o1), (a2, o2), (a3, o3), (53, o), (c', oc), (b, ob), (c9, oc9)] :=
      fun q hq => ⟨hk _ _ (fun z => Nat.ne_of_lt (hlt q hq) (List.mem_singleton.mp z)) (N1 q (.tail _ hq)).1, (N1 q (.tail _ hq)).2⟩
    dsimp only [kstB] at F'
    clear B' X' T'
    have B' := K1
    have X' := XB.keeps K1.stays
    have T' := TB.keeps K1.stays
    (try dsimp only)
    k_steps
    walk_at "nm"
    refine hret pi _ _ _ (turnedF hg (fun q hq => (N q (htb q hq)).1) (fun q hq => (N' q hq).1) kt F'.keep) ?_
    rw [← hwk]
    have e0 : ws.drop (List.toArray vs).size = [] := List.drop_eq_nil_of_le (by
      have := hvs.length
      simp at this ⊢; omega)
    rw [e0]; rfl
end EC_red
section
variable {w : World} {base h₀ : Heap} {outer : List Env} {L : Addr} {m : Str → Option Value} {env : Env} {news : List (Addr × Obj)}
  {hd : Option Value} {dp un : Nat} {gd : Option (List Code)} {s : Shared} {Q E : Value → Shared → Prop}
theorem C_red {src : List Nat} {strict : Bool} {ws : List (List Nat)} {vs : List Value} {n : Nat} {f lw a1 a2 a3 b c' c9 : Addr} {o1 o2 o3 o oc ob oc9 : Obj} {t1 : Tok} {nm ql : Str} {pr : Arguments} {bd : Expr} {sc : Scope} {clo : List (Str × Addr)} {pmv ctv : Value} (am : Amb w base h₀ L m env outer news s.heap) (hdp : dp < 320) (hun : un < 4000)
    (XB : (Mine.hd0.heap_1 w.params).In base) (hTB : Ex5 fun p loose mean mg mb => Top p loose mean mg mb base) (h2 : src.length ≤ 100)
    (hws : ∀ x ∈ ws, x ≠ [] ∧ x.length ≤ 2 ∧ (reprText (S x)).length ≤ 500) (hvs : StrsAre vs (ws.map S)) (hn : ws.length ≤ 100)
    (hlw : (lw, W.listOf (List.toArray vs) n) ∈ news) (htF : ∀ q ∈ [(f, kla_obj nm ql pr bd sc clo pmv c9 ctv), (a1, o1), (a2, o2), (a3, o3), (53, o), (c', oc), (b, ob), (c9, oc9)], q ∈ news)
    (hL : LamOk w base f [(f, kla_obj nm ql pr bd sc clo pmv c9 ctv), (a1, o1), (a2, o2), (a3, o3), (53, o), (c', oc), (b, ob), (c9, oc9)] src strict 399)
    (hret : ∀ (np : Nat) t' h' tk, Turned (frs (env :: outer)) s.heap h' → walkV src strict ws 1 = .inr np → Q (.int (np : Nat) t') { s with heap := h', toks := tk })
    (hE : ∀ e t y h' tk, FlyE base (hideAll s.heap [53]) (env :: outer) e t y h' → walkV src strict ws 1 = .inl y → E (.ref e) { s with heap := h', toks := tk }) :
    wpAny (MD w) (ar none dp un gd env outer) (call (.ref 105) [.ref f, .ref lw, .int 1 t1]) Q E s :=
  EC_red.ck9.2 EC_red.kk9 ((((((w, base), h₀), ((outer, L), m)), (((env, news), dp), (un, gd))), ((((s, Q), E), ((src, strict), ws)), (((vs, n), f), (lw, a1)))), (((((a2, a3), b), ((c', c9), o1)), (((o2, o3), o), (oc, ob))), ((((oc9, t1), nm), (ql, pr)), (((bd, sc), clo), (pmv, ctv))))) am hdp hun XB hTB h2 hws hvs hn hlw htF hL hret hE
end
end Mine
end
theorem Mine.e9s12 : True := trivial
section
open PySem PySem.Spec PySem.Calls PyProof.Rows PySem.W
set_option maxHeartbeats 4000000
namespace Mine
structure Caught (base g : Heap) (outer : List Env) (L : Addr) (m : Str → Option Value) (news2 : List (Addr × Obj)) (e t : Addr) (y : Str) (h₆ g₆ g₇ : Heap) (c2 : Addr) (oc2 oe : Obj) (ot : Obj) : Prop where
  kt : KtsTurn (frs outer) g g₆
  bk : ∀ h, g₇.StaysIn h → h.get? c2 = some oc2 → g₆.StaysIn h
  F : Fr g₇ L h₆ m
  N : News g₇ L h₆ ((e, oe) :: (t, ot) :: (53, tab3 19 4 c2) :: (c2, oc2) :: news2)
  ts : TabS 53 19 4 qcr (tab3 19 4 c2) c2 oc2
  nb : base.get? c2 = none
  oe1 : oe.cls = .ref 41
  oe2 : ∃ ws, oe.data = .fields ws ∧ ws[0]? = some (.ref t)
  tu : ∃ k, ot.cls = .type "tuple" ∧ ∃ n, ot.data = .seq #[.str y k] n
section
variable {prog : Program} {w w' : World} {A₀ : Around} {E : Value → Shared → Prop} {s' : Shared} {base g G : Heap} {outer : List Env} {L e t : Addr} {m : Str → Option Value} {env : Env} {y : Str}
  {b₀ : Stmt} {suite : List Stmt} {pos np : Pos} {rest : List ExceptHandler} {Q : Flow → Shared → Prop} {news news2 : List (Addr × Obj)} {x n : Str} {o : Obj}
end
namespace ElandW
noncomputable def Pk9 (prog : Program) (w : World) (w' : World) (A₀ : Around) (E : Value → Shared → Prop) (s' : Shared) (base : Heap) (g : Heap) (G : Heap) (outer : List Env) (L : Addr) (e : Addr) (t : Addr) (m : Str → Option Value) (env : Env) (y : Str) (b₀ : Stmt) (suite : List Stmt) (pos : Pos) (np : Pos) (rest : List ExceptHandler) (Q : Flow → Shared → Prop) (news : List (Addr × Obj)) (news2 : List (Addr × Obj)) (x : Str) (n : Str) (o : Obj) : Prop := ∀ (K : Below A₀ base outer g) (F : Fr g L G m) (N : News g L G news) (hm : (53, o) ∈ news) (h2 : ∀ p ∈ news2, p ∈ news ∧ p.1 ≠ 53) (XB : (Mine.hd0.heap_1 w.params).In base) (hf : env.frame = some L) (R : FlyE base (hideAll G [53]) (env :: outer) e t y s'.heap) (hname : ∀ (h₅ g₅ : Heap) {Q : Value → Shared → Prop} {E : Value → Shared → Prop}, Fr g₅ L h₅ m → Below A₀ base outer g₅ → Q (.ref 41) { s' with heap := h₅ } → wpAny (model prog w') ((A₀.deeper env).mark (some (.ref e))) (eval (.Name x np) env) Q E { s' with heap := h₅ }) (k : ∀ (h₆ g₆ g₇ : Heap) (c2 : Addr) (oc2 oe ot : Obj) (EE EE' : Value → Shared → Prop), Caught base g outer L m news2 e t y h₆ g₆ g₇ c2 oc2 oe ot → Below A₀ base outer g₇ →
      wpAny (model prog w') ((A₀.deeper env).mark (some (.ref e))) (storeName env n (.ref e)) (fun _ s₂ => wpAny (model prog w') ((A₀.deeper env).mark (some (.ref e))) (execs (b₀ :: suite) env)
        (fun f s₄ => wpAny (model prog w') (A₀.deeper env) (do bindName env n .none; unbindBehindTheSuite env n pos) (fun _ s₅ => Q f s₅) E s₄) EE s₂) EE' { s' with heap := h₆ }),
    wpAny (model prog w') (A₀.deeper env) (noteFrame (.ref e) env)
      (fun _ s₂ => wpAny (model prog w') (A₀.deeper env) (setFlight (.ref e) none) (fun _ s₃ =>
        wpAny (model prog w') (A₀.deeper env) (handleBy (.ref e) env (.ExceptHandler (some (.Name x np)) (some n) (b₀ :: suite) pos :: rest)) Q E s₃) E s₂) E s'
noncomputable def Pu9 (x : ((((((Program) × (World)) × ((World) × (Around))) × (((Value → Shared → Prop) × (Shared)) × (Heap))) × ((((Heap) × (Heap)) × ((List Env) × (Addr))) × (((Addr) × (Addr)) × (Str → Option Value)))) × (((((Env) × (Str)) × ((Stmt) × (List Stmt))) × (((Pos) × (Pos)) × (List ExceptHandler))) × ((((Flow → Shared → Prop) × (List (Addr × Obj))) × (List (Addr × Obj))) × (((Str) × (Str)) × (Obj)))))) : Prop := Pk9 x.1.1.1.1.1 x.1.1.1.1.2 x.1.1.1.2.1 x.1.1.1.2.2 x.1.1.2.1.1 x.1.1.2.1.2 x.1.1.2.2 x.1.2.1.1.1 x.1.2.1.1.2 x.1.2.1.2.1 x.1.2.1.2.2 x.1.2.2.1.1 x.1.2.2.1.2 x.1.2.2.2 x.2.1.1.1.1 x.2.1.1.1.2 x.2.1.1.2.1 x.2.1.1.2.2 x.2.1.2.1.1 x.2.1.2.1.2 x.2.1.2.2 x.2.2.1.1.1 x.2.2.1.1.2 x.2.2.1.2 x.2.2.2.1.1 x.2.2.2.1.2 x.2.2.2.2
noncomputable def ck9 : {x : _ // Pu9 x → ∀ y, Pu9 y} := Classical.choice (drink (by repeat (first | exact neS | exact neW | exact neA | refine ne2 ?_ ?_ | exact ⟨default⟩ | exact ⟨fun _ _ => True⟩ | exact ⟨fun _ => True⟩ | exact ⟨fun _ => default⟩ | exact ⟨fun _ _ => default⟩)))
noncomputable def prog : Program := ck9.1.1.1.1.1.1
noncomputable def w : World := ck9.1.1.1.1.1.2
noncomputable def w' : World := ck9.1.1.1.1.2.1
noncomputable def A₀ : Around := ck9.1.1.1.1.2.2
noncomputable def E : Value → Shared → Prop := ck9.1.1.1.2.1.1
noncomputable def s' : Shared := ck9.1.1.1.2.1.2
noncomputable def base : Heap := ck9.1.1.1.2.2
noncomputable def g : Heap := ck9.1.1.2.1.1.1
noncomputable def G : Heap := ck9.1.1.2.1.1.2
noncomputable def outer : List Env := ck9.1.1.2.1.2.1
noncomputable def L : Addr := ck9.1.1.2.1.2.2
noncomputable def e : Addr := ck9.1.1.2.2.1.1
noncomputable def t : Addr := ck9.1.1.2.2.1.2
noncomputable def m : Str → Option Value := ck9.1.1.2.2.2
noncomputable def env : Env := ck9.1.2.1.1.1.1
noncomputable def y : Str := ck9.1.2.1.1.1.2
noncomputable def b₀ : Stmt := ck9.1.2.1.1.2.1
noncomputable def suite : List Stmt := ck9.1.2.1.1.2.2
noncomputable def pos : Pos := ck9.1.2.1.2.1.1
noncomputable def np : Pos := ck9.1.2.1.2.1.2
noncomputable def rest : List ExceptHandler := ck9.1.2.1.2.2
noncomputable def Q : Flow → Shared → Prop := ck9.1.2.2.1.1.1
noncomputable def news : List (Addr × Obj) := ck9.1.2.2.1.1.2
noncomputable def news2 : List (Addr × Obj) := ck9.1.2.2.1.2
noncomputable def x : Str := ck9.1.2.2.2.1.1
noncomputable def n : Str := ck9.1.2.2.2.1.2
noncomputable def o : Obj := ck9.1.2.2.2.2
theorem kk9 : Pk9 prog w w' A₀ E s' base g G outer L e t m env y b₀ suite pos np rest Q news news2 x n o := by
  intro K F N hm h2 XB hf R hname k
  have hK : (fun (_ : OpenLaw) (_ : Params → Frag) => True) PySem.Challenge.rw_rx0047_01 Mine.hd0.heap_1 := by (k_fill; trivial)
  obtain ⟨⟨B, b1, b2, b3, b4, b5⟩, ⟨ky, htup⟩, hu, hne, hnt⟩ := R
  have g53 : g.get? 53 = none := (N _ hm).2.2
  have L53 : (53 : Addr) ≠ L := (N _ hm).2.1
  have efr : frs (env :: outer) = L :: frs outer := List.filterMap_cons_some hf
  have kp : g.StaysIn (hideAll G [53]) := fun b o q => hideAll_get _ (F.keep _ _ q) (fun z => by rw [List.mem_singleton.mp z, g53] at q; cases q)
  have F53 : Fr g L (hideAll G [53]) m := by
    obtain ⟨oL, es, ep, hL, r⟩ := F.ns
    exact ⟨⟨oL, es, ep, hideAll_get _ hL (fun z => L53 (List.mem_singleton.mp z).symm), r⟩, kp, F.above⟩
  have N53 : News g L (hideAll G [53]) news2 := fun p hp => ⟨hideAll_get _ (N p (h2 p hp).1).1 (fun z => (h2 p hp).2 (List.mem_singleton.mp z)), (N p (h2 p hp).1).2⟩
  have T53 : ∀ h, B.StaysIn h → (hideAll G [53]).UpToSlots h → Turned (L :: frs outer) (hideAll G [53]) h := fun h hB hU => ⟨fun b o q nb => hB _ _ (b1 b o q (by rw [efr]; exact nb)), fun b o q hb => hU b o q (by
    rcases List.mem_cons.mp hb with rfl | hb
    · obtain ⟨oL, es, ep, hL, hd, _⟩ := F53.ns
      rw [q] at hL; cases hL
      intro vs z; rw [hd] at z; cases z
    · obtain ⟨_, o', ho', hnf⟩ := K.frames.mem hb
      have := kp _ _ ho'
      rw [q] at this; cases this
      exact hnf)⟩
  refine wpAny_looks_onW (Around.frames_deeper K.stack) hf b4 fun h₄ held₄ sm₄ => ?_
  refine wpAny_landsW held₄ fun h₅ fl₅ sm₅ => ?_
  have sm5 := sm₄.trans sm₅
  obtain ⟨g₅, T₅, F₅, N₅, K₅⟩ := reground K F53 N53 (T53 h₅ fl₅.1 (hu.trans sm5))
  obtain ⟨ob, hob, hobc⟩ := fl₅.there
  have e41 := fl₅.1 _ _ (b2 _ _ (XB 41 _ (by k_is)))
  refine wpAny_handleBy_cons (codeAny_handlers_test (hname h₅ g₅ F₅ K₅ ?_)) (by intro q; cases q)
  refine wpAny_excMatches_sub_self e41 hob hobc PySem.F.excBase_ValueError.hasBase (codeAny_handlers_suite_as ?_)
  refine lands_againW fl₅ fun h₆ fl₆ sm₆ => ?_
  have sm6 := (hu.trans sm5).trans sm₆
  obtain ⟨g₆, T₆, F₆, N₆, K₆⟩ := reground K F53 N53 (T53 h₆ fl₆.1 sm6)
  obtain ⟨oe, ws, hoe, hoec, hoed, hoe0⟩ := fl₆.first
  obtain ⟨ot, nt, hot, hotc, hotd⟩ := (htup.of_slots sm5).of_slots sm₆
  obtain ⟨c2, oc2, vc, tc, a1, a2, a3, a4, a5⟩ := b3
  have a1 := fl₆.1 _ _ a1
  have a2 := fl₆.1 _ _ a2
  have ne6 : g₆.get? e = none := T₆.none_ _ (kts_none F53.keep hne)
  have nt6 : g₆.get? t = none := T₆.none_ _ (kts_none F53.keep hnt)
  have n53 : g₆.get? 53 = none := T₆.none_ _ g53
  have hid : ∀ b, g₆.get? b = none → (hideAll g₆ [c2]).get? b = none := fun b q => kts_none (fun b o z => of_hideAll _ z) q
  have notL : ∀ b ob, h₆.get? b = some ob → (∀ es ep, ob.data ≠ .dict es ep) → b ≠ L := fun b ob q nd z => by
    obtain ⟨oL, es, ep, hL, hd, _⟩ := F₆.ns
    rw [z, hL] at q; cases q
    exact nd _ _ hd
  have F₇ : Fr (hideAll g₆ [c2]) L h₆ m := ⟨F₆.ns, fun b o q => F₆.keep _ _ (of_hideAll _ q), Nat.le_trans (Nat.le_of_eq (hideAll_size _ _)) F₆.above⟩
  have K₇ : Below A₀ base outer (hideAll g₆ [c2]) := ⟨K₆.stack, fun b o q => hideAll_get _ (K₆.stays b o q) (fun z => by rw [List.mem_singleton.mp z, a5] at q; cases q), funFrames_hideAll K₆.frames fun env' he b hb hf' => by
    obtain ⟨_, o', ho', hnf⟩ := K₆.frames.mem (List.mem_filterMap.mpr ⟨env', he, hf'⟩)
    rw [List.mem_singleton.mp hb] at ho'
    have := F₆.keep _ _ ho'
    rw [a2] at this; cases this
    exact hnf _ a3⟩
  refine k h₆ g₆ (hideAll g₆ [c2]) c2 oc2 oe ot _ _ ⟨T₆, fun h st hc b o q => ?_, F₇, ?_, .inr ⟨rfl, vc, tc, a3, a4⟩, a5, hoec, ⟨ws, hoed, hoe0⟩, ⟨ky, hotc, nt, hotd⟩⟩ K₇
  · by_cases z : b = c2
    · subst z
      have := F₆.keep _ _ q
      rw [a2] at this; cases this
      exact hc
    · exact st _ _ (hideAll_get _ q (fun hm => z (List.mem_singleton.mp hm)))
  · refine List.forall_mem_cons.mpr ⟨⟨hoe, notL _ _ hoe (fun es ep z => by rw [hoed] at z; cases z), hid _ ne6⟩, List.forall_mem_cons.mpr ⟨⟨hot, notL _ _ hot (fun es ep z => by rw [hotd] at z; cases z), hid _ nt6⟩,
      List.forall_mem_cons.mpr ⟨⟨a1, L53, hid _ n53⟩, List.forall_mem_cons.mpr ⟨⟨a2, notL _ _ a2 (fun es ep z => by rw [a3] at z; cases z), hideAll_none _ (List.mem_singleton.mpr rfl)⟩, fun p hp => ⟨(N₆ p hp).1, (N₆ p hp).2.1, hid _ (N₆ p hp).2.2⟩⟩⟩⟩⟩
end ElandW
section
variable {prog : Program} {w w' : World} {A₀ : Around} {E : Value → Shared → Prop} {s' : Shared} {base g G : Heap} {outer : List Env} {L e t : Addr} {m : Str → Option Value} {env : Env} {y : Str}
  {b₀ : Stmt} {suite : List Stmt} {pos np : Pos} {rest : List ExceptHandler} {Q : Flow → Shared → Prop} {news news2 : List (Addr × Obj)} {x n : Str} {o : Obj}
theorem landW (K : Below A₀ base outer g) (F : Fr g L G m) (N : News g L G news) (hm : (53, o) ∈ news) (h2 : ∀ p ∈ news2, p ∈ news ∧ p.1 ≠ 53) (XB : (Mine.hd0.heap_1 w.params).In base) (hf : env.frame = some L)
    (R : FlyE base (hideAll G [53]) (env :: outer) e t y s'.heap)
    (hname : ∀ (h₅ g₅ : Heap) {Q : Value → Shared → Prop} {E : Value → Shared → Prop}, Fr g₅ L h₅ m → Below A₀ base outer g₅ → Q (.ref 41) { s' with heap := h₅ } → wpAny (model prog w') ((A₀.deeper env).mark (some (.ref e))) (eval (.Name x np) env) Q E { s' with heap := h₅ })
    (k : ∀ (h₆ g₆ g₇ : Heap) (c2 : Addr) (oc2 oe ot : Obj) (EE EE' : Value → Shared → Prop), Caught base g outer L m news2 e t y h₆ g₆ g₇ c2 oc2 oe ot → Below A₀ base outer g₇ →
      wpAny (model prog w') ((A₀.deeper env).mark (some (.ref e))) (storeName env n (.ref e)) (fun _ s₂ => wpAny (model prog w') ((A₀.deeper env).mark (some (.ref e))) (execs (b₀ :: suite) env)
        (fun f s₄ => wpAny (model prog w') (A₀.deeper env) (do bindName env n .none; unbindBehindTheSuite env n pos) (fun _ s₅ => Q f s₅) E s₄) EE s₂) EE' { s' with heap := h₆ }) :
    wpAny (model prog w') (A₀.deeper env) (noteFrame (.ref e) env)
      (fun _ s₂ => wpAny (model prog w') (A₀.deeper env) (setFlight (.ref e) none) (fun _ s₃ =>
        wpAny (model prog w') (A₀.deeper env) (handleBy (.ref e) env (.ExceptHandler (some (.Name x np)) (some n) (b₀ :: suite) pos :: rest)) Q E s₃) E s₂) E s' :=
  ElandW.ck9.2 ElandW.kk9 (((((prog, w), (w', A₀)), ((E, s'), base)), (((g, G), (outer, L)), ((e, t), m))), ((((env, y), (b₀, suite)), ((pos, np), rest)), (((Q, news), news2), ((x, n), o)))) K F N hm h2 XB hf R hname k
end
end Mine
end
section
open PySem PySem.Spec PySem.Calls PyProof.Rows PySem.W
set_option maxHeartbeats 4000000
namespace Mine
theorem kw31 : True := by
  (k_with "om0" => ((fail_if_success first | have := @Mine.e9s13 | fail); (repeat (with_reducible rename _ ∧ _ => h9); clear h9); omega (config := {})))
  (k_with "isom0" => ((fail_if_success first | have := @Mine.e9s13 | fail); skip))
  (k_with "9call ref" => ((fail_if_success first | have := @Mine.e9s13 | fail); with_unfolding_all (first | with_reducible refine stopC3 ?_ | refine stopC3 ?_)))
  (k_with "9call type:str" => ((fail_if_success first | have := @Mine.e9s13 | fail); with_unfolding_all (first | with_reducible refine stopC3 ?_ | refine stopC3 ?_)))
  (k_with "9call type:frozenset" => ((fail_if_success first | have := @Mine.e9s13 | fail); with_unfolding_all walk_at "nm"; (first | with_reducible refine fz_make rfl ?_ | refine fz_make rfl ?_); intro lb hb ob tkb kb nb eb hob; have F'' := backF F' kb; have N'' := backA F' (backN N' kb) eb nb; have nbl := backNeN N' nb; simp only [List.forall_mem_cons, List.forall_mem_nil, and_true] at nbl; clear F' N'; have F' := F''; have N' := N''; clear F'' N''))
  (k_with "9eval Lambda" => ((fail_if_success first | have := @Mine.e9s13 | fail); with_unfolding_all walk_at "nm"; refine' kla_eval ?d0 ?_; (case d0 => exact rfl); refine' kla_nest F' N' T' hC' rfl ?U ?t9 ?n9 ?cl9 ?_; (case U => k_updF); (case t9 => exact True.intro); (case n9 => exact rfl); (case cl9 => exact rfl); intro f1 c91 oc91 vs91 t91 ct91 h' tk' F' N' d91 d92 l1 l2; (try dsimp only at N'); (try k_lt l1); try k_lt2 l2))
  (k_with "9eval Lambda" => ((fail_if_success first | have := @Mine.e9s13 | fail); with_unfolding_all walk_at "nm"; refine' kla_eval ?d0 ?_; (case d0 => exact rfl); refine' kla_hit F' N' T' hC' rfl ?mem ?t9 ?n9 ?cl9 ?_; (case mem => k_mem); (case t9 => exact True.intro); (case n9 => exact rfl); (case cl9 => exact rfl); intro f1 ct91 h' tk' F' N' l1; (try dsimp only at N'); try k_lt l1))
  trivial
theorem backNeN {h₀ g : Heap} {L l : Addr} {news : List (Addr × Obj)} (N : News h₀ L g news) (hn : g.get? l = none) : ∀ p ∈ news, @Ne Nat p.1 l := backNe N hn
theorem kw32 : True := by
  (k_with "9binaryOp Add str str" => ((fail_if_success first | have := @Mine.e9s13 | fail); with_unfolding_all (first | with_reducible refine r_addL (a := [35]) (by decide +kernel) (by simp; omega) ?_ | refine r_addL (a := [35]) (by decide +kernel) (by simp; omega) ?_); intro _ _))
  trivial
theorem not_at {h₀ h : Heap} {L a b : Addr} {news : List (Addr × Obj)} {o1 o2 : Obj} (N : News h₀ L h news) (h1 : (a, o1) ∈ news) (h2 : (b, o2) ∈ news) (hn : o1 ≠ o2) : @Ne Nat a b := fun q => by
  have z1 := (N _ h1).1
  have z2 := (N _ h2).1
  have q : a = b := q
  subst q
  rw [z2] at z1
  exact hn (Option.some.inj z1).symm
noncomputable abbrev qlm : Str := Str.ofString "_law_walk" ++ Str.ofString ".<locals>." ++ Str.ofString "<lambda>"
theorem tabs_ne {o oc : Obj} {P line col : Nat} {qual : Str} {c' : Addr} {its : Array Value} {n : Nat} (hT : TabS P line col qual o c' oc) : W.listOf its n ≠ o := fun q => by
  rcases hT with ⟨h, _⟩ | ⟨h, _⟩ <;> (rw [h] at q; injection q with q; cases q)
theorem turnedH {G g g' hc : Heap} {tb : List (Addr × Obj)} {fs hid : List Addr} (hg : g = hideAll G (tb.map (·.1))) (ht : ∀ p ∈ tb, p.1 ∈ hid ∨ (G.get? p.1 = some p.2 ∧ hc.get? p.1 = some p.2)) (kt : KtsTurn fs g g') (Fk : g'.StaysIn hc) : Turned fs (hideAll G hid) hc := by
  have t := Turned.of_turn kt Fk
  have nh : ∀ b o, (hideAll G hid).get? b = some o → b ∉ hid := fun b o e q => by rw [hideAll_none hid q] at e; cases e
  constructor
  · intro b x e nb
    have n := nh b x e
    have e := of_hideAll _ e
    by_cases z : b ∈ tb.map (·.1)
    · obtain ⟨p, hp, rfl⟩ := List.mem_map.mp z
      rcases ht p hp with q | ⟨q1, q2⟩
      · exact absurd q n
      · rw [q1] at e; cases e
        exact q2
    · exact t.other _ _ (hg ▸ hideAll_get _ e z) nb
  · intro b x e hb
    have n := nh b x e
    have e := of_hideAll _ e
    by_cases z : b ∈ tb.map (·.1)
    · obtain ⟨p, hp, rfl⟩ := List.mem_map.mp z
      rcases ht p hp with q | ⟨q1, q2⟩
      · exact absurd q n
      · rw [q1] at e; cases e
        exact ⟨p.2.slots, q2⟩
    · exact t.frame _ _ (hg ▸ hideAll_get _ e z) hb
theorem code_ne {o oc oc1 : Obj} {P line col : Nat} {qual x : Str} {c' : Addr} {vs : Array Value} {t : Tok} (hT : TabS P line col qual o c' oc) (h3 : oc1.data = .fields vs) (h4 : vs[1]? = some (.str x t)) : oc1 ≠ o := fun q => by
  rcases hT with ⟨h, _⟩ | ⟨h, _⟩ <;> (rw [q, h] at h3; injection h3 with h3; rw [← h3] at h4; cases h4)
theorem not_tab {h₀ h : Heap} {L c' : Addr} {news : List (Addr × Obj)} {o oc : Obj} {ps : Array Value} (N : News h₀ L h news) (h1 : (c', oc) ∈ news) (h2 : (152, tabObj ps) ∈ news) (hT : TabS 53 19 4 qcr o c' oc) (hp : ∀ x t, ps[1]? ≠ some (.str x t) := by intro x t q; cases q) : @Ne Nat c' 152 := by
  rcases hT with ⟨_, rfl, _⟩ | ⟨_, vs, t, h3, h4⟩
  · decide
  · refine not_at N h1 h2 fun q => ?_
    rw [q] at h3
    injection h3 with h3
    rw [← h3] at h4
    exact hp _ _ h4
section
variable {w : World} {base h₀ : Heap} {outer : List Env} {L : Addr} {m : Str → Option Value} {env : Env} {news : List (Addr × Obj)}
  {hd : Option Value} {dp un : Nat} {gd : Option (List Code)} {s : Shared} {Q E : Value → Shared → Prop}
end
namespace EC_walk
noncomputable def Pk9 (w : World) (base : Heap) (h₀ : Heap) (outer : List Env) (L : Addr) (m : Str → Option Value) (env : Env) (news : List (Addr × Obj)) (dp : Nat) (un : Nat) (gd : Option (List Code)) (s : Shared) (Q : Value → Shared → Prop) (E : Value → Shared → Prop) (r : List Nat) (strict : Bool) (ws : List (List Nat)) (vs : List Value) (n : Nat) (lw : Addr) (c' : Addr) (o : Obj) (oc : Obj) (t0 : Tok) : Prop := ∀ {c9 : Addr} {o9 : Obj} {oc9 : Obj} (am : Amb w base h₀ L m env outer news s.heap) (hdp : dp < 310) (hun : un < 3000) (XB : (Mine.hd0.heap_1 w.params).In base) (hTB : ∃ p loose mean mg mb, Top p loose mean mg mb base) (hC57 : CodeHd base 57 53) (hC156 : CodeHd h₀ 156 152) (hr : r.length ≤ 50) (h10 : 10 ∉ r) (hws : ∀ x ∈ ws, x ≠ [] ∧ x.length ≤ 2 ∧ (reprText (S x)).length ≤ 500) (hvs : StrsAre vs (ws.map S)) (hn : ws.length ≤ 100) (hlw : (lw, W.listOf (List.toArray vs) n) ∈ news) (hm1 : (53, o) ∈ news) (hm2 : (c', oc) ∈ news) (hT : TabS 53 19 4 qcr o c' oc) (hm3 : (152, o9) ∈ news) (hm4 : (c9, oc9) ∈ news) (hT9 : TabS 152 207 22 qlm o9 c9 oc9) (hret : ∀ v h' tk o' c2 oc' o9' c92 oc9', Turned (frs (env :: outer)) (hideAll s.heap [53, 152]) h' → h'.get? 53 = some o' → h'.get? c2 = some oc' → TabS 53 19 4 qcr o' c2 oc' → base.get? c2 = none →
      h'.get? 152 = some o9' → h'.get? c92 = some oc9' → TabS 152 207 22 qlm o9' c92 oc9' → base.get? c92 = none → Tells v (walkV (35 :: r) strict ws 1) → Q v { s with heap := h', toks := tk }),
    wpAny (MD w) (ar none dp un gd env outer) (call (.ref 157) [.str (S r) t0, .ref lw, .bool strict]) Q E s
noncomputable def Pu9 (x : ((((((World) × (Heap)) × (Heap)) × (((List Env) × (Addr)) × (Str → Option Value))) × ((((Env) × (List (Addr × Obj))) × (Nat)) × (((Nat) × (Option (List Code))) × (Shared)))) × (((((Value → Shared → Prop) × (Value → Shared → Prop)) × (List Nat)) × (((Bool) × (List (List Nat))) × (List Value))) × ((((Nat) × (Addr)) × (Addr)) × (((Obj) × (Obj)) × (Tok)))))) : Prop := Pk9 x.1.1.1.1.1 x.1.1.1.1.2 x.1.1.1.2 x.1.1.2.1.1 x.1.1.2.1.2 x.1.1.2.2 x.1.2.1.1.1 x.1.2.1.1.2 x.1.2.1.2 x.1.2.2.1.1 x.1.2.2.1.2 x.1.2.2.2 x.2.1.1.1.1 x.2.1.1.1.2 x.2.1.1.2 x.2.1.2.1.1 x.2.1.2.1.2 x.2.1.2.2 x.2.2.1.1.1 x.2.2.1.1.2 x.2.2.1.2 x.2.2.2.1.1 x.2.2.2.1.2 x.2.2.2.2
noncomputable def ck9 : {x : _ // Pu9 x → ∀ y, Pu9 y} := Classical.choice (drink (by repeat (first | exact neS | exact neW | exact neA | refine ne2 ?_ ?_ | exact ⟨default⟩ | exact ⟨fun _ _ => True⟩ | exact ⟨fun _ => True⟩ | exact ⟨fun _ => default⟩ | exact ⟨fun _ _ => default⟩)))
noncomputable def w : World := ck9.1.1.1.1.1.1
noncomputable def base : Heap := ck9.1.1.1.1.1.2
noncomputable def h₀ : Heap := ck9.1.1.1.1.2
noncomputable def outer : List Env := ck9.1.1.1.2.1.1
noncomputable def L : Addr := ck9.1.1.1.2.1.2
noncomputable def m : Str → Option Value := ck9.1.1.1.2.2
noncomputable def env : Env := ck9.1.1.2.1.1.1
noncomputable def news : List (Addr × Obj) := ck9.1.1.2.1.1.2
noncomputable def dp : Nat := ck9.1.1.2.1.2
noncomputable def un : Nat := ck9.1.1.2.2.1.1
noncomputable def gd : Option (List Code) := ck9.1.1.2.2.1.2
noncomputable def s : Shared := ck9.1.1.2.2.2
noncomputable def Q : Value → Shared → Prop := ck9.1.2.1.1.1.1
noncomputable def E : Value → Shared → Prop := ck9.1.2.1.1.1.2
noncomputable def r : List Nat := ck9.1.2.1.1.2
noncomputable def strict : Bool := ck9.1.2.1.2.1.1
noncomputable def ws : List (List Nat) := ck9.1.2.1.2.1.2
noncomputable def vs : List Value := ck9.1.2.1.2.2
noncomputable def n : Nat := ck9.1.2.2.1.1.1
noncomputable def lw : Addr := ck9.1.2.2.1.1.2
noncomputable def c' : Addr := ck9.1.2.2.1.2
noncomputable def o : Obj := ck9.1.2.2.2.1.1
noncomputable def oc : Obj := ck9.1.2.2.2.1.2
noncomputable def t0 : Tok := ck9.1.2.2.2.2
theorem kk9 : Pk9 w base h₀ outer L m env news dp un gd s Q E r strict ws vs n lw c' o oc t0 := by
  intro c9 o9 oc9 am hdp hun XB hTB hC57 hC156 hr h10 hws hvs hn hlw hm1 hm2 hT hm3 hm4 hT9 hret
  (try revert hret)
  (try revert hT9)
  (try revert hm4)
  (try revert hm3)
  (try revert hT)
  (try revert hm2)
  (try revert hm1)
  (try revert hlw)
  (try revert hn)
  (try revert hvs)
  (try revert hws)
  (try revert h10)
  (try revert hr)
  (try revert hC156)
  (try revert hC57)
  (try revert hTB)
  (try revert XB)
  (try revert hun)
  (try revert hdp)
  (try revert am)
  (repeat ((rename (_ : Prop) => z9); (fail_if_success (have : Clm := z9)); revert z9))
  revert c9 o9 oc9
  (refine no_implicit_lambda% (close3 12928 ?ne_kpC_w (R := ?R_kpC_w) ((?nw_kpC_w : ∀ c9 o9 oc9, ?R_kpC_w c9 o9 oc9) (Mine.cl 12928 ?ne_kpC_w (un3 ?R_kpC_w)).1.1 (Mine.cl 12928 ?ne_kpC_w (un3 ?R_kpC_w)).1.2 (Mine.cl 12928 ?ne_kpC_w (un3 ?R_kpC_w)).2)))
  (case ne_kpC_w => repeat (first | exact ⟨default⟩ | exact neS | exact neW | exact neA | refine ne2 ?_ ?_))
  intro c9 o9 oc9
  (set_option tactic.hygienic false in intros)
  have mk9 : Clm := ⟨trivial⟩
  rcases hT9 with ⟨rfl, rfl, rfl⟩ | ⟨rfl, vs91, t91, d91, d92⟩
  · have htb : ∀ q ∈ [(lw, W.listOf (List.toArray vs) n), (53, o), (c', oc), (152, tabObj #[])], q ∈ news := List.forall_mem_cons.mpr ⟨hlw, List.forall_mem_cons.mpr ⟨hm1, List.forall_mem_cons.mpr ⟨hm2, List.forall_mem_cons.mpr ⟨hm3, List.forall_mem_nil _⟩⟩⟩⟩
    have mk9 : Clm := ⟨trivial⟩
    obtain ⟨⟨A₀, B⟩, F, X, N, ⟨p, loose, mean, mg, mb, T⟩, hf, hke⟩ := am
    have XX := Frag.In.keeps X (Fr.keep F)
    have hK : (fun (_ : OpenLaw) (_ : Params → Frag) => True) PySem.Challenge.rw_rx0047_01 Mine.hd0.heap_1 := by (k_fill; trivial)
    refine' wpAny_call (enterC (binds := [(Str.ofString "row", .str (S r) t0), (Str.ofString "words", .ref lw), (Str.ofString "strict", .bool strict)]) B F N htb (Top.nolimit T) rfl hf hke ?ho_e17 ?hd_e17 ?hcd_e17 ?hroom_e17 ?hbind_e17 ?hkind_e17 ?hnd_e17 ?h_e17 ?hco_e17 ?hgen_e17 ?hk_e17)
    (case ho_e17 => exact XX _ _ (by k_is))
    (case hd_e17 => exact rfl)
    (case hcd_e17 => exact codeRec_of XX (by k_is))
    (case hroom_e17 => exact Nat.lt_of_lt_of_le hdp (by decide))
    (case hbind_e17 => first | exact BindsTo.of_eq rfl | exact binds_K XX rfl (by k_is) rfl rfl rfl)
    (case hkind_e17 => exact rfl)
    (case hnd_e17 => decide +kernel)
    (case hco_e17 => exact rfl)
    (case hgen_e17 => exact rfl)
    (case hk_e17 => exact rfl)
    intro g L' h₁ tk₁ cells' hg F' N' Y' B' st l1
    have X' := Frag.In.keeps X st
    have T' := Top.keeps T st
    (try k_lt l1)
    k_cells Y'
    rename_i c1 c2 c3 e1 e2 e3
    (try simp only [List.cons_append, List.nil_append] at N')
    (try dsimp only)
    (try k_fold)
    clear hK
    (try revert e3)
    (try revert e2)
    (try revert e1)
    (try revert T')
    (try revert X')
    (try revert l1)
    (try revert st)
    (try revert B')
    (try revert N')
    (try revert F')
    (try revert hg)
    (try revert hK)
    (try revert XX)
    (try revert hke)
    (try revert hf)
    (try revert T)
    (try revert N)
    (try revert X)
    (try revert F)
    (try revert B)
    (repeat ((rename (_ : Prop) => z9); (fail_if_success (have : Clm := z9)); revert z9))
    revert A₀ p loose mean mg mb g L' h₁ tk₁ c1 c2 c3
    (refine no_implicit_lambda% (close13 12223 ?ne_e1 (R := ?R_e1) ((?nw_e1 : ∀ A₀ p loose mean mg mb g L' h₁ tk₁ c1 c2 c3, ?R_e1 A₀ p loose mean mg mb g L' h₁ tk₁ c1 c2 c3) (Mine.cl 12223 ?ne_e1 (un13 ?R_e1)).1.1.1.1 (Mine.cl 12223 ?ne_e1 (un13 ?R_e1)).1.1.1.2 (Mine.cl 12223 ?ne_e1 (un13 ?R_e1)).1.1.2.1 (Mine.cl 12223 ?ne_e1 (un13 ?R_e1)).1.1.2.2 (Mine.cl 12223 ?ne_e1 (un13 ?R_e1)).1.2.1.1 (Mine.cl 12223 ?ne_e1 (un13 ?R_e1)).1.2.1.2 (Mine.cl 12223 ?ne_e1 (un13 ?R_e1)).1.2.2 (Mine.cl 12223 ?ne_e1 (un13 ?R_e1)).2.1.1.1 (Mine.cl 12223 ?ne_e1 (un13 ?R_e1)).2.1.1.2 (Mine.cl 12223 ?ne_e1 (un13 ?R_e1)).2.1.2 (Mine.cl 12223 ?ne_e1 (un13 ?R_e1)).2.2.1.1 (Mine.cl 12223 ?ne_e1 (un13 ?R_e1)).2.2.1.2 (Mine.cl 12223 ?ne_e1 (un13 ?R_e1)).2.2.2)))
    (case ne_e1 => repeat (first | exact ⟨default⟩ | exact neS | exact neW | exact neA | refine ne2 ?_ ?_))
    intro A₀ p loose mean mg mb g L' h₁ tk₁ c1 c2 c3
    (set_option tactic.hygienic false in intros)
    have mk9 : Clm := ⟨trivial⟩
    have fo9 : FoldOn := ⟨trivial⟩
    have hneL : @Ne Nat lw 152 := not_at N hlw hm3 (fun q => by injection q with q; cases q)
    have hneC : @Ne Nat c' 152 := not_tab N hm2 hm3 hT
    have hC' := CodeHd.keeps hC156 st
    obtain ⟨pB, looseB, meanB, mgB, mbB, TB⟩ := hTB
    k_steps
    refine wpAny_Try_except ?_
    k_steps
    walk_at "nm"
    (rename _ = Data.cell (some (Value.ref lb)) => dB)
    (rename _ = Data.cell (some (Value.str (S (35 :: r)) _)) => dT)
    have dS : c3.data = Data.cell (some (Value.bool strict)) := e3
    clear e1 e2 e3
    k_steps
    unfold Hold
    walk_at "nm"
    with_unfolding_all
      refine C_red (ws := ws) (vs := vs) (src := 35 :: r) (strict := strict) ⟨⟨_, B'⟩, F', X', N', ⟨_, _, _, _, _, T'⟩, rfl, rfl⟩ (by show dp + 1 < 320; omega) (by show un + 3 < 4000; omega) XB ⟨_, _, _, _, _, TB⟩ (by simp; omega) hws hvs hn (by k_mem)
        (List.forall_mem_cons.mpr ⟨.head _, List.forall_mem_cons.mpr ⟨.tail _ (.tail _ (.tail _ (.tail _ (.head _)))), List.forall_mem_cons.mpr ⟨.tail _ (.tail _ (.tail _ (.tail _ (.tail _ (.head _))))), List.forall_mem_cons.mpr ⟨.tail _ (.tail _ (.tail _ (.tail _ (.tail _ (.tail _ (.head _)))))),
          List.forall_mem_cons.mpr ⟨.tail _ (.tail _ (.tail _ (.tail _ (.tail _ (.tail _ (.tail _ (.tail _ (.head _)))))))), List.forall_mem_cons.mpr ⟨.tail _ (.tail _ (.tail _ (.tail _ (.tail _ (.tail _ (.tail _ (.tail _ (.tail _ (.head _))))))))), List.forall_mem_cons.mpr ⟨.tail _ (.tail _ (.tail _ (.head _))), List.forall_mem_cons.mpr ⟨.tail _ (.head _), List.forall_mem_nil _⟩⟩⟩⟩⟩⟩⟩⟩)
        ?hL ?hok ?herr
    case hL =>
      clear F' N' B' X' T'
      intro h₁₀ L₁ m₁ env₁ outer₁ news₁ dp₁ un₁ gd₁ s₁ Q₁ E₁ p₁ x t₁ t₂ am₁ htF₁ hdp₁ hun₁ hp₁ hxl hxne hrl hret₁ hE₁
      obtain ⟨⟨A₁, B₁⟩, F₁, X₁, N₁, ⟨pp₁, loose₁, mean₁, mg₁, mb₁, T₁⟩, hf₁, hke₁⟩ := am₁
      have XX₁ := Frag.In.keeps X₁ (Fr.keep F₁)
      refine' wpAny_call (enterL (binds := [(Str.ofString "place", .int (p₁ : Nat) t₁), (Str.ofString "word", .str (S x) t₂)]) B₁ F₁ N₁ htF₁ (Top.nolimit T₁) rfl hf₁ hke₁ ?ho₁ ?hcd₁ ?hroom₁ ?hbind₁ ?hloc₁ ?h₁ ?hcell₁ ?hco₁ ?hgen₁ ?hk₁)
      case ho₁ => exact (N₁ _ (htF₁ _ (.head _))).1
      case hcd₁ => exact ⟨_, _, _, _, rfl, (N₁ _ (htF₁ _ (.tail _ (.tail _ (.tail _ (.tail _ (.tail _ (.tail _ (.tail _ (.head _)))))))))).1, d91, d92⟩
      case hroom₁ => exact Nat.lt_of_lt_of_le (m := 600) (show dp₁ < 600 by omega) (by decide)
      case hbind₁ => exact rfl
      case hloc₁ => exact locs rfl
      case hcell₁ => decide
      case hco₁ => exact rfl
      case hgen₁ => exact rfl
      case hk₁ => exact rfl
      intro g' L'' h₁' tk₁' hg' F' N' B' st' l1'
      have X' := Frag.In.keeps X₁ st'
      have T' := Top.keeps T₁ st'
      (try k_lt l1')
      (try dsimp only)
      (try k_fold)
      k_steps
      unfold Hold
      walk_at "nm"
      with_unfolding_all
        refine C_skip (src := 35 :: r) (x := x) (pos := ((p₁ : Nat) : Int)) (strict := strict) ⟨⟨_, B'⟩, F', X', N', ⟨_, _, _, _, _, T'⟩, rfl, rfl⟩ (by show dp₁ + 1 < 400; omega) (by show un₁ + 3 < 5000; omega) XB ⟨_, _, _, _, _, TB⟩ hC57 (by k_mem) (by k_mem) hT (by k_mem) hob
          (by omega) (by omega) (by simp; omega) hxl hxne (by simpa using h10) hrl ?sok ?serr
      case sok =>
        intro np t5 h5 tk5 u5 hsk
        have hnp := skipV_le hxne hsk
        obtain ⟨g2, kt2, F7, N7, K7⟩ := reground B' F' N' u5
        clear F' N' B' X' T'
        have F' := F7
        have N' := N7
        have B' := K7
        have X' := XB.keeps K7.stays
        have T' := TB.keeps K7.stays
        clear F7 N7
        k_steps
        walk_at "nm"
        exact hret₁ np _ _ _ (turnedF hg' (fun q hq => (N₁ q (htF₁ q hq)).1) (fun q hq => (N' q hq).1) kt2 F'.keep) hsk
      case serr =>
        intro e t9 y h5 tk5 fl hsk
        refine leaveE3 (L := L'') B' rfl (noneG hg' (fun q hq => (N' q hq).2.1) (kts_self F')) (hideAll_none _ (List.mem_singleton.mpr rfl)) (turnedF hg' (fun q hq => (N₁ q (htF₁ q hq)).1) (fun q hq => (N' q hq).1) .refl F'.keep).hide fl fun h9 fl9 => ?_
        exact hE₁ e t9 y h9 _ fl9 hsk
    case hok =>
      intro np t5 h5 tk5 u5 hwk
      obtain ⟨g2, kt2, F7, N7, K7⟩ := reground B' F' N' u5
      have gone : ∀ {b ob}, (b, ob) ∈ _ → base.get? b = none := fun {b ob} hb => kts_none K7.stays (N7 (b, ob) hb).2.2
      refine hret _ _ _ o c' oc (tab3 207 22 c91) c91 oc91 (turnedH hg (List.forall_mem_cons.mpr ⟨.inr ⟨(N _ hlw).1, (N7 (lw, W.listOf (List.toArray vs) n) (by k_mem)).1⟩, List.forall_mem_cons.mpr ⟨.inl (by simp), List.forall_mem_cons.mpr ⟨.inr ⟨(N _ hm2).1, (N7 (c', oc) (by k_mem)).1⟩, List.forall_mem_cons.mpr ⟨.inl (by simp), List.forall_mem_nil _⟩⟩⟩⟩) kt2 F7.keep)
        (N7 (53, o) (by k_mem)).1 (N7 (c', oc) (by k_mem)).1 hT (gone (ob := oc) (by k_mem)) (N7 (152, tab3 207 22 c91) (by k_mem)).1 (N7 (c91, oc91) (by k_mem)).1 (.inr ⟨rfl, vs91, t91, d91, d92⟩) (gone (ob := oc91) (by k_mem)) ?_
      rw [hwk]; exact .num _ _
    case herr =>
      intro e t9 y h5 tk5 fl hwk
      have hneL5 : @Ne Nat lw 53 := not_at N hlw hm1 (tabs_ne hT)
      have hn91 : @Ne Nat c91 53 := by omega
      rcases Nat.decEq c' 53 with hc5 | hc5
      · clear hneC
        refine landW (w' := w) (o := o) B' F' N' (.tail _ (.tail _ (.tail _ (.tail _ (.tail _ (.tail _ (.tail _ (.tail _ (.head _))))))))) (List.forall_mem_cons.mpr ⟨⟨.tail _ (.tail _ (.tail _ (.tail _ (.tail _ (.tail _ (.tail _ (.tail _ (.tail _ (.head _))))))))), hc5⟩, List.forall_mem_cons.mpr ⟨⟨.tail _ (.head _), hn91⟩, List.forall_mem_cons.mpr ⟨⟨.tail _ (.tail _ (.tail _ (.tail _ (.tail _ (.tail _ (.tail _ (.head _))))))), hneL5⟩, List.forall_mem_cons.mpr ⟨⟨.tail _ (.tail _ (.tail _ (.tail _ (.tail _ (.tail _ (.tail _ (.tail _ (.tail _ (.tail _ (.head _)))))))))), (show (152 : Nat) ≠ 53 by decide)⟩, List.forall_mem_nil _⟩⟩⟩⟩) XB rfl fl ?hname1 ?hk1
        case hname1 =>
          intro h5' g5' Q5 E5 F5 K5 hq
          clear F' N' B' X' T'
          have F' := F5
          have B' := K5
          have X' := XB.keeps K5.stays
          have T' := TB.keeps K5.stays
          have N' : News g5' L' h5' [] := fun _ h => nomatch h
          k_steps
          exact hq
        case hk1 =>
          intro h6 g6 g7 c2 oc2 oe ot EE EE' cg K7
          clear F' N' B' X' T'
          have F' := cg.F
          have N' := cg.N
          have B' := K7
          have X' := XB.keeps K7.stays
          have T' := TB.keeps K7.stays
          k_steps
          unfold Hold
          walk_at "nm"
          obtain ⟨ws9, hws1, hws2⟩ := cg.oe2
          obtain ⟨ky, ht1, nt9, ht2⟩ := cg.tu
          refine str_own (w := w) (oe := oe) (t0 := t9) (m := y) (tk := ky) (Frag.In.keeps X' F'.keep) (by show un + 3 + 2 < 9900; omega) (N' (e, oe) (by k_mem)).1 cg.oe1 hws1 hws2 ⟨ot, nt9, (N' (t9, ot) (by k_mem)).1, ht1, ht2⟩ ?_
          k_steps
          walk_at "nm"
          refine wpAny_nameGoes (n := Str.ofString "fault") rfl F'.ns rfl fun h' m' hn' hs' => ?_
          have F8 := F'.set hn' hs'
          have N8 := N'.set hs'
          clear F' N'
          have F' := F8
          have N' := N8
          have gone : ∀ {b ob}, (b, ob) ∈ _ → base.get? b = none := fun {b ob} hb => kts_none K7.stays (N' (b, ob) hb).2.2
          refine hret _ _ _ (tab3 19 4 c2) c2 oc2 (tab3 207 22 c91) c91 oc91 (turnedH hg (List.forall_mem_cons.mpr ⟨.inr ⟨(N _ hlw).1, (N' (lw, W.listOf (List.toArray vs) n) (by k_mem)).1⟩, List.forall_mem_cons.mpr ⟨.inl (by simp), List.forall_mem_cons.mpr ⟨.inr ⟨(N _ hm2).1, (N' (c', oc) (by k_mem)).1⟩, List.forall_mem_cons.mpr ⟨.inl (by simp), List.forall_mem_nil _⟩⟩⟩⟩) cg.kt (cg.bk _ F'.keep (N' (c2, oc2) (by k_mem)).1))
            (N' (53, tab3 19 4 c2) (by k_mem)).1 (N' (c2, oc2) (by k_mem)).1 cg.ts cg.nb (N' (152, tab3 207 22 c91) (by k_mem)).1 (N' (c91, oc91) (by k_mem)).1 (.inr ⟨rfl, vs91, t91, d91, d92⟩) (gone (ob := oc91) (by k_mem)) ?_
          rw [hwk]; exact .text _ _
      ·
        refine landW (w' := w) (o := o) B' F' N' (.tail _ (.tail _ (.tail _ (.tail _ (.tail _ (.tail _ (.tail _ (.tail _ (.head _))))))))) (List.forall_mem_cons.mpr ⟨⟨.tail _ (.head _), hn91⟩, List.forall_mem_cons.mpr ⟨⟨.tail _ (.tail _ (.tail _ (.tail _ (.tail _ (.tail _ (.tail _ (.head _))))))), hneL5⟩, List.forall_mem_cons.mpr ⟨⟨.tail _ (.tail _ (.tail _ (.tail _ (.tail _ (.tail _ (.tail _ (.tail _ (.tail _ (.tail _ (.head _)))))))))), (show (152 : Nat) ≠ 53 by decide)⟩, List.forall_mem_nil _⟩⟩⟩) XB rfl fl ?hname0 ?hk0
        case hname0 =>
          intro h5' g5' Q5 E5 F5 K5 hq
          clear F' N' B' X' T'
          have F' := F5
          have B' := K5
          have X' := XB.keeps K5.stays
          have T' := TB.keeps K5.stays
          have N' : News g5' L' h5' [] := fun _ h => nomatch h
          k_steps
          exact hq
        case hk0 =>
          intro h6 g6 g7 c2 oc2 oe ot EE EE' cg K7
          clear F' N' B' X' T'
          have F' := cg.F
          have N' := cg.N
          have B' := K7
          have X' := XB.keeps K7.stays
          have T' := TB.keeps K7.stays
          k_steps
          unfold Hold
          walk_at "nm"
          obtain ⟨ws9, hws1, hws2⟩ := cg.oe2
          obtain ⟨ky, ht1, nt9, ht2⟩ := cg.tu
          refine str_own (w := w) (oe := oe) (t0 := t9) (m := y) (tk := ky) (Frag.In.keeps X' F'.keep) (by show un + 3 + 2 < 9900; omega) (N' (e, oe) (by k_mem)).1 cg.oe1 hws1 hws2 ⟨ot, nt9, (N' (t9, ot) (by k_mem)).1, ht1, ht2⟩ ?_
          k_steps
          walk_at "nm"
          refine wpAny_nameGoes (n := Str.ofString "fault") rfl F'.ns rfl fun h' m' hn' hs' => ?_
          have F8 := F'.set hn' hs'
          have N8 := N'.set hs'
          clear F' N'
          have F' := F8
          have N' := N8
          have gone : ∀ {b ob}, (b, ob) ∈ _ → base.get? b = none := fun {b ob} hb => kts_none K7.stays (N' (b, ob) hb).2.2
          refine hret _ _ _ (tab3 19 4 c2) c2 oc2 (tab3 207 22 c91) c91 oc91 (turnedH hg (List.forall_mem_cons.mpr ⟨.inr ⟨(N _ hlw).1, (N' (lw, W.listOf (List.toArray vs) n) (by k_mem)).1⟩, List.forall_mem_cons.mpr ⟨.inl (by simp), List.forall_mem_cons.mpr ⟨.inl (List.mem_cons.mpr (.inl hc5)), List.forall_mem_cons.mpr ⟨.inl (by simp), List.forall_mem_nil _⟩⟩⟩⟩) cg.kt (cg.bk _ F'.keep (N' (c2, oc2) (by k_mem)).1))
            (N' (53, tab3 19 4 c2) (by k_mem)).1 (N' (c2, oc2) (by k_mem)).1 cg.ts cg.nb (N' (152, tab3 207 22 c91) (by k_mem)).1 (N' (c91, oc91) (by k_mem)).1 (.inr ⟨rfl, vs91, t91, d91, d92⟩) (gone (ob := oc91) (by k_mem)) ?_
          rw [hwk]; exact .text _ _
  · have htb : ∀ q ∈ [(lw, W.listOf (List.toArray vs) n), (53, o), (c', oc), (152, tab3 207 22 c9), (c9, oc9)], q ∈ news := List.forall_mem_cons.mpr ⟨hlw, List.forall_mem_cons.mpr ⟨hm1, List.forall_mem_cons.mpr ⟨hm2, List.forall_mem_cons.mpr ⟨hm3, List.forall_mem_cons.mpr ⟨hm4, List.forall_mem_nil _⟩⟩⟩⟩⟩
    have mk9 : Clm := ⟨trivial⟩
    obtain ⟨⟨A₀, B⟩, F, X, N, ⟨p, loose, mean, mg, mb, T⟩, hf, hke⟩ := am
    have XX := Frag.In.keeps X (Fr.keep F)
    have hK : (fun (_ : OpenLaw) (_ : Params → Frag) => True) PySem.Challenge.rw_rx0047_01 Mine.hd0.heap_1 := by (k_fill; trivial)
    refine' wpAny_call (enterC (binds := [(Str.ofString "row", .str (S r) t0), (Str.ofString "words", .ref lw), (Str.ofString "strict", .bool strict)]) B F N htb (Top.nolimit T) rfl hf hke ?ho_e18 ?hd_e18 ?hcd_e18 ?hroom_e18 ?hbind_e18 ?hkind_e18 ?hnd_e18 ?h_e18 ?hco_e18 ?hgen_e18 ?hk_e18)
    (case ho_e18 => exact XX _ _ (by k_is))
    (case hd_e18 => exact rfl)
    (case hcd_e18 => exact codeRec_of XX (by k_is))
    (case hroom_e18 => exact Nat.lt_of_lt_of_le hdp (by decide))
    (case hbind_e18 => first | exact BindsTo.of_eq rfl | exact binds_K XX rfl (by k_is) rfl rfl rfl)
    (case hkind_e18 => exact rfl)
    (case hnd_e18 => decide +kernel)
    (case hco_e18 => exact rfl)
    (case hgen_e18 => exact rfl)
    (case hk_e18 => exact rfl)
    intro g L' h₁ tk₁ cells' hg F' N' Y' B' st l1
    have X' := Frag.In.keeps X st
    have T' := Top.keeps T st
    (try k_lt l1)
    k_cells Y'
    rename_i c1 c2 c3 e1 e2 e3
    (try simp only [List.cons_append, List.nil_append] at N')
    (try dsimp only)
    (try k_fold)
    clear hK
    (try revert e3)
    (try revert e2)
    (try revert e1)
    (try revert T')
    (try revert X')
    (try revert l1)
    (try revert st)
    (try revert B')
    (try revert N')
    (try revert F')
    (try revert hg)
    (try revert hK)
    (try revert XX)
    (try revert hke)
    (try revert hf)
    (try revert T)
    (try revert N)
    (try revert X)
    (try revert F)
    (try revert B)
    (repeat ((rename (_ : Prop) => z9); (fail_if_success (have : Clm := z9)); revert z9))
    revert A₀ p loose mean mg mb g L' h₁ tk₁ c1 c2 c3
    (refine no_implicit_lambda% (close13 37148 ?ne_e2 (R := ?R_e2) ((?nw_e2 : ∀ A₀ p loose mean mg mb g L' h₁ tk₁ c1 c2 c3, ?R_e2 A₀ p loose mean mg mb g L' h₁ tk₁ c1 c2 c3) (Mine.cl 37148 ?ne_e2 (un13 ?R_e2)).1.1.1.1 (Mine.cl 37148 ?ne_e2 (un13 ?R_e2)).1.1.1.2 (Mine.cl 37148 ?ne_e2 (un13 ?R_e2)).1.1.2.1 (Mine.cl 37148 ?ne_e2 (un13 ?R_e2)).1.1.2.2 (Mine.cl 37148 ?ne_e2 (un13 ?R_e2)).1.2.1.1 (Mine.cl 37148 ?ne_e2 (un13 ?R_e2)).1.2.1.2 (Mine.cl 37148 ?ne_e2 (un13 ?R_e2)).1.2.2 (Mine.cl 37148 ?ne_e2 (un13 ?R_e2)).2.1.1.1 (Mine.cl 37148 ?ne_e2 (un13 ?R_e2)).2.1.1.2 (Mine.cl 37148 ?ne_e2 (un13 ?R_e2)).2.1.2 (Mine.cl 37148 ?ne_e2 (un13 ?R_e2)).2.2.1.1 (Mine.cl 37148 ?ne_e2 (un13 ?R_e2)).2.2.1.2 (Mine.cl 37148 ?ne_e2 (un13 ?R_e2)).2.2.2)))
    (case ne_e2 => repeat (first | exact ⟨default⟩ | exact neS | exact neW | exact neA | refine ne2 ?_ ?_))
    intro A₀ p loose mean mg mb g L' h₁ tk₁ c1 c2 c3
    (set_option tactic.hygienic false in intros)
    have mk9 : Clm := ⟨trivial⟩
    have fo9 : FoldOn := ⟨trivial⟩
    have hneL : @Ne Nat lw 152 := not_at N hlw hm3 (fun q => by injection q with q; cases q)
    have hneC : @Ne Nat c' 152 := not_tab N hm2 hm3 hT
    have hC' := CodeHd.keeps hC156 st
    obtain ⟨pB, looseB, meanB, mgB, mbB, TB⟩ := hTB
    k_steps
    refine wpAny_Try_except ?_
    k_steps
    walk_at "nm"
    (rename _ = Data.cell (some (Value.ref lb)) => dB)
    (rename _ = Data.cell (some (Value.str (S (35 :: r)) _)) => dT)
    have dS : c3.data = Data.cell (some (Value.bool strict)) := e3
    clear e1 e2 e3
    k_steps
    unfold Hold
    walk_at "nm"
    with_unfolding_all
      refine C_red (ws := ws) (vs := vs) (src := 35 :: r) (strict := strict) ⟨⟨_, B'⟩, F', X', N', ⟨_, _, _, _, _, T'⟩, rfl, rfl⟩ (by show dp + 1 < 320; omega) (by show un + 3 < 4000; omega) XB ⟨_, _, _, _, _, TB⟩ (by simp; omega) hws hvs hn (by k_mem)
        (List.forall_mem_cons.mpr ⟨.head _, List.forall_mem_cons.mpr ⟨.tail _ (.tail _ (.tail _ (.head _))), List.forall_mem_cons.mpr ⟨.tail _ (.tail _ (.tail _ (.tail _ (.head _)))), List.forall_mem_cons.mpr ⟨.tail _ (.tail _ (.tail _ (.tail _ (.tail _ (.head _))))),
          List.forall_mem_cons.mpr ⟨.tail _ (.tail _ (.tail _ (.tail _ (.tail _ (.tail _ (.tail _ (.head _))))))), List.forall_mem_cons.mpr ⟨.tail _ (.tail _ (.tail _ (.tail _ (.tail _ (.tail _ (.tail _ (.tail _ (.head _)))))))), List.forall_mem_cons.mpr ⟨.tail _ (.tail _ (.head _)), List.forall_mem_cons.mpr ⟨.tail _ (.tail _ (.tail _ (.tail _ (.tail _ (.tail _ (.tail _ (.tail _ (.tail _ (.tail _ (.head _)))))))))), List.forall_mem_nil _⟩⟩⟩⟩⟩⟩⟩⟩)
        ?hL ?hok ?herr
    case hL =>
      clear F' N' B' X' T'
      intro h₁₀ L₁ m₁ env₁ outer₁ news₁ dp₁ un₁ gd₁ s₁ Q₁ E₁ p₁ x t₁ t₂ am₁ htF₁ hdp₁ hun₁ hp₁ hxl hxne hrl hret₁ hE₁
      obtain ⟨⟨A₁, B₁⟩, F₁, X₁, N₁, ⟨pp₁, loose₁, mean₁, mg₁, mb₁, T₁⟩, hf₁, hke₁⟩ := am₁
      have XX₁ := Frag.In.keeps X₁ (Fr.keep F₁)
      refine' wpAny_call (enterL (binds := [(Str.ofString "place", .int (p₁ : Nat) t₁), (Str.ofString "word", .str (S x) t₂)]) B₁ F₁ N₁ htF₁ (Top.nolimit T₁) rfl hf₁ hke₁ ?ho₁_2 ?hcd₁_2 ?hroom₁_2 ?hbind₁_2 ?hloc₁_2 ?h₁_2 ?hcell₁_2 ?hco₁_2 ?hgen₁_2 ?hk₁_2)
      case ho₁_2 => exact (N₁ _ (htF₁ _ (.head _))).1
      case hcd₁_2 => exact ⟨_, _, _, _, rfl, (N₁ _ (htF₁ _ (.tail _ (.tail _ (.tail _ (.tail _ (.tail _ (.tail _ (.tail _ (.head _)))))))))).1, d91, d92⟩
      case hroom₁_2 => exact Nat.lt_of_lt_of_le (m := 600) (show dp₁ < 600 by omega) (by decide)
      case hbind₁_2 => exact rfl
      case hloc₁_2 => exact locs rfl
      case hcell₁_2 => decide
      case hco₁_2 => exact rfl
      case hgen₁_2 => exact rfl
      case hk₁_2 => exact rfl
      intro g' L'' h₁' tk₁' hg' F' N' B' st' l1'
      have X' := Frag.In.keeps X₁ st'
      have T' := Top.keeps T₁ st'
      (try k_lt l1')
      (try dsimp only)
      (try k_fold)
      k_steps
      unfold Hold
      walk_at "nm"
      with_unfolding_all
        refine C_skip (src := 35 :: r) (x := x) (pos := ((p₁ : Nat) : Int)) (strict := strict) ⟨⟨_, B'⟩, F', X', N', ⟨_, _, _, _, _, T'⟩, rfl, rfl⟩ (by show dp₁ + 1 < 400; omega) (by show un₁ + 3 < 5000; omega) XB ⟨_, _, _, _, _, TB⟩ hC57 (by k_mem) (by k_mem) hT (by k_mem) hob
          (by omega) (by omega) (by simp; omega) hxl hxne (by simpa using h10) hrl ?sok ?serr
      case sok =>
        intro np t5 h5 tk5 u5 hsk
        have hnp := skipV_le hxne hsk
        obtain ⟨g2, kt2, F7, N7, K7⟩ := reground B' F' N' u5
        clear F' N' B' X' T'
        have F' := F7
        have N' := N7
        have B' := K7
        have X' := XB.keeps K7.stays
        have T' := TB.keeps K7.stays
        clear F7 N7
        k_steps
        walk_at "nm"
        exact hret₁ np _ _ _ (turnedF hg' (fun q hq => (N₁ q (htF₁ q hq)).1) (fun q hq => (N' q hq).1) kt2 F'.keep) hsk
      case serr =>
        intro e t9 y h5 tk5 fl hsk
        refine leaveE3 (L := L'') B' rfl (noneG hg' (fun q hq => (N' q hq).2.1) (kts_self F')) (hideAll_none _ (List.mem_singleton.mpr rfl)) (turnedF hg' (fun q hq => (N₁ q (htF₁ q hq)).1) (fun q hq => (N' q hq).1) .refl F'.keep).hide fl fun h9 fl9 => ?_
        exact hE₁ e t9 y h9 _ fl9 hsk
    case hok =>
      intro np t5 h5 tk5 u5 hwk
      obtain ⟨g2, kt2, F7, N7, K7⟩ := reground B' F' N' u5
      have gone : ∀ {b ob}, (b, ob) ∈ _ → base.get? b = none := fun {b ob} hb => kts_none K7.stays (N7 (b, ob) hb).2.2
      refine hret _ _ _ o c' oc (tab3 207 22 c9) c9 oc9 (turnedH hg (List.forall_mem_cons.mpr ⟨.inr ⟨(N _ hlw).1, (N7 (lw, W.listOf (List.toArray vs) n) (by k_mem)).1⟩, List.forall_mem_cons.mpr ⟨.inl (by simp), List.forall_mem_cons.mpr ⟨.inr ⟨(N _ hm2).1, (N7 (c', oc) (by k_mem)).1⟩, List.forall_mem_cons.mpr ⟨.inl (by simp), List.forall_mem_cons.mpr ⟨.inr ⟨(N _ hm4).1, (N7 (c9, oc9) (by k_mem)).1⟩, List.forall_mem_nil _⟩⟩⟩⟩⟩) kt2 F7.keep)
        (N7 (53, o) (by k_mem)).1 (N7 (c', oc) (by k_mem)).1 hT (gone (ob := oc) (by k_mem)) (N7 (152, tab3 207 22 c9) (by k_mem)).1 (N7 (c9, oc9) (by k_mem)).1 (.inr ⟨rfl, vs91, t91, d91, d92⟩) (gone (ob := oc9) (by k_mem)) ?_
      rw [hwk]; exact .num _ _
    case herr =>
      intro e t9 y h5 tk5 fl hwk
      have hneL5 : @Ne Nat lw 53 := not_at N hlw hm1 (tabs_ne hT)
      have hn91 : @Ne Nat c9 53 := not_at N hm4 hm1 (code_ne hT d91 d92)
      rcases Nat.decEq c' 53 with hc5 | hc5
      · clear hneC
        refine landW (w' := w) (o := o) B' F' N' (.tail _ (.tail _ (.tail _ (.tail _ (.tail _ (.tail _ (.tail _ (.head _)))))))) (List.forall_mem_cons.mpr ⟨⟨.tail _ (.tail _ (.tail _ (.tail _ (.tail _ (.tail _ (.tail _ (.tail _ (.head _)))))))), hc5⟩, List.forall_mem_cons.mpr ⟨⟨.tail _ (.tail _ (.tail _ (.tail _ (.tail _ (.tail _ (.tail _ (.tail _ (.tail _ (.tail _ (.head _)))))))))), hn91⟩, List.forall_mem_cons.mpr ⟨⟨.tail _ (.tail _ (.tail _ (.tail _ (.tail _ (.tail _ (.head _)))))), hneL5⟩, List.forall_mem_cons.mpr ⟨⟨.tail _ (.tail _ (.tail _ (.tail _ (.tail _ (.tail _ (.tail _ (.tail _ (.tail _ (.head _))))))))), (show (152 : Nat) ≠ 53 by decide)⟩, List.forall_mem_nil _⟩⟩⟩⟩) XB rfl fl ?hname1 ?hk1
        case hname1 =>
          intro h5' g5' Q5 E5 F5 K5 hq
          clear F' N' B' X' T'
          have F' := F5
          have B' := K5
          have X' := XB.keeps K5.stays
          have T' := TB.keeps K5.stays
          have N' : News g5' L' h5' [] := fun _ h => nomatch h
          k_steps
          exact hq
        case hk1 =>
          intro h6 g6 g7 c2 oc2 oe ot EE EE' cg K7
          clear F' N' B' X' T'
          have F' := cg.F
          have N' := cg.N
          have B' := K7
          have X' := XB.keeps K7.stays
          have T' := TB.keeps K7.stays
          k_steps
          unfold Hold
          walk_at "nm"
          obtain ⟨ws9, hws1, hws2⟩ := cg.oe2
          obtain ⟨ky, ht1, nt9, ht2⟩ := cg.tu
          refine str_own (w := w) (oe := oe) (t0 := t9) (m := y) (tk := ky) (Frag.In.keeps X' F'.keep) (by show un + 3 + 2 < 9900; omega) (N' (e, oe) (by k_mem)).1 cg.oe1 hws1 hws2 ⟨ot, nt9, (N' (t9, ot) (by k_mem)).1, ht1, ht2⟩ ?_
          k_steps
          walk_at "nm"
          refine wpAny_nameGoes (n := Str.ofString "fault") rfl F'.ns rfl fun h' m' hn' hs' => ?_
          have F8 := F'.set hn' hs'
          have N8 := N'.set hs'
          clear F' N'
          have F' := F8
          have N' := N8
          have gone : ∀ {b ob}, (b, ob) ∈ _ → base.get? b = none := fun {b ob} hb => kts_none K7.stays (N' (b, ob) hb).2.2
          refine hret _ _ _ (tab3 19 4 c2) c2 oc2 (tab3 207 22 c9) c9 oc9 (turnedH hg (List.forall_mem_cons.mpr ⟨.inr ⟨(N _ hlw).1, (N' (lw, W.listOf (List.toArray vs) n) (by k_mem)).1⟩, List.forall_mem_cons.mpr ⟨.inl (by simp), List.forall_mem_cons.mpr ⟨.inr ⟨(N _ hm2).1, (N' (c', oc) (by k_mem)).1⟩, List.forall_mem_cons.mpr ⟨.inl (by simp), List.forall_mem_cons.mpr ⟨.inr ⟨(N _ hm4).1, (N' (c9, oc9) (by k_mem)).1⟩, List.forall_mem_nil _⟩⟩⟩⟩⟩) cg.kt (cg.bk _ F'.keep (N' (c2, oc2) (by k_mem)).1))
            (N' (53, tab3 19 4 c2) (by k_mem)).1 (N' (c2, oc2) (by k_mem)).1 cg.ts cg.nb (N' (152, tab3 207 22 c9) (by k_mem)).1 (N' (c9, oc9) (by k_mem)).1 (.inr ⟨rfl, vs91, t91, d91, d92⟩) (gone (ob := oc9) (by k_mem)) ?_
          rw [hwk]; exact .text _ _
      ·
        refine landW (w' := w) (o := o) B' F' N' (.tail _ (.tail _ (.tail _ (.tail _ (.tail _ (.tail _ (.tail _ (.head _)))))))) (List.forall_mem_cons.mpr ⟨⟨.tail _ (.tail _ (.tail _ (.tail _ (.tail _ (.tail _ (.tail _ (.tail _ (.tail _ (.tail _ (.head _)))))))))), hn91⟩, List.forall_mem_cons.mpr ⟨⟨.tail _ (.tail _ (.tail _ (.tail _ (.tail _ (.tail _ (.head _)))))), hneL5⟩, List.forall_mem_cons.mpr ⟨⟨.tail _ (.tail _ (.tail _ (.tail _ (.tail _ (.tail _ (.tail _ (.tail _ (.tail _ (.head _))))))))), (show (152 : Nat) ≠ 53 by decide)⟩, List.forall_mem_nil _⟩⟩⟩) XB rfl fl ?hname0 ?hk0
        case hname0 =>
          intro h5' g5' Q5 E5 F5 K5 hq
          clear F' N' B' X' T'
          have F' := F5
          have B' := K5
          have X' := XB.keeps K5.stays
          have T' := TB.keeps K5.stays
          have N' : News g5' L' h5' [] := fun _ h => nomatch h
          k_steps
          exact hq
        case hk0 =>
          intro h6 g6 g7 c2 oc2 oe ot EE EE' cg K7
          clear F' N' B' X' T'
          have F' := cg.F
          have N' := cg.N
          have B' := K7
          have X' := XB.keeps K7.stays
          have T' := TB.keeps K7.stays
          k_steps
          unfold Hold
          walk_at "nm"
          obtain ⟨ws9, hws1, hws2⟩ := cg.oe2
          obtain ⟨ky, ht1, nt9, ht2⟩ := cg.tu
          refine str_own (w := w) (oe := oe) (t0 := t9) (m := y) (tk := ky) (Frag.In.keeps X' F'.keep) (by show un + 3 + 2 < 9900; omega) (N' (e, oe) (by k_mem)).1 cg.oe1 hws1 hws2 ⟨ot, nt9, (N' (t9, ot) (by k_mem)).1, ht1, ht2⟩ ?_
          k_steps
          walk_at "nm"
          refine wpAny_nameGoes (n := Str.ofString "fault") rfl F'.ns rfl fun h' m' hn' hs' => ?_
          have F8 := F'.set hn' hs'
          have N8 := N'.set hs'
          clear F' N'
          have F' := F8
          have N' := N8
          have gone : ∀ {b ob}, (b, ob) ∈ _ → base.get? b = none := fun {b ob} hb => kts_none K7.stays (N' (b, ob) hb).2.2
          refine hret _ _ _ (tab3 19 4 c2) c2 oc2 (tab3 207 22 c9) c9 oc9 (turnedH hg (List.forall_mem_cons.mpr ⟨.inr ⟨(N _ hlw).1, (N' (lw, W.listOf (List.toArray vs) n) (by k_mem)).1⟩, List.forall_mem_cons.mpr ⟨.inl (by simp), List.forall_mem_cons.mpr ⟨.inl (List.mem_cons.mpr (.inl hc5)), List.forall_mem_cons.mpr ⟨.inl (by simp), List.forall_mem_cons.mpr ⟨.inr ⟨(N _ hm4).1, (N' (c9, oc9) (by k_mem)).1⟩, List.forall_mem_nil _⟩⟩⟩⟩⟩) cg.kt (cg.bk _ F'.keep (N' (c2, oc2) (by k_mem)).1))
            (N' (53, tab3 19 4 c2) (by k_mem)).1 (N' (c2, oc2) (by k_mem)).1 cg.ts cg.nb (N' (152, tab3 207 22 c9) (by k_mem)).1 (N' (c9, oc9) (by k_mem)).1 (.inr ⟨rfl, vs91, t91, d91, d92⟩) (gone (ob := oc9) (by k_mem)) ?_
          rw [hwk]; exact .text _ _
end EC_walk
section
variable {w : World} {base h₀ : Heap} {outer : List Env} {L : Addr} {m : Str → Option Value} {env : Env} {news : List (Addr × Obj)}
  {hd : Option Value} {dp un : Nat} {gd : Option (List Code)} {s : Shared} {Q E : Value → Shared → Prop}
theorem C_walk {r : List Nat} {strict : Bool} {ws : List (List Nat)} {vs : List Value} {n : Nat} {lw c' c9 : Addr} {o oc o9 oc9 : Obj} {t0 : Tok} (am : Amb w base h₀ L m env outer news s.heap) (hdp : dp < 310) (hun : un < 3000)
    (XB : (Mine.hd0.heap_1 w.params).In base) (hTB : ∃ p loose mean mg mb, Top p loose mean mg mb base) (hC57 : CodeHd base 57 53) (hC156 : CodeHd h₀ 156 152) (hr : r.length ≤ 50) (h10 : 10 ∉ r)
    (hws : ∀ x ∈ ws, x ≠ [] ∧ x.length ≤ 2 ∧ (reprText (S x)).length ≤ 500) (hvs : StrsAre vs (ws.map S)) (hn : ws.length ≤ 100)
    (hlw : (lw, W.listOf (List.toArray vs) n) ∈ news) (hm1 : (53, o) ∈ news) (hm2 : (c', oc) ∈ news) (hT : TabS 53 19 4 qcr o c' oc) (hm3 : (152, o9) ∈ news) (hm4 : (c9, oc9) ∈ news) (hT9 : TabS 152 207 22 qlm o9 c9 oc9)
    (hret : ∀ v h' tk o' c2 oc' o9' c92 oc9', Turned (frs (env :: outer)) (hideAll s.heap [53, 152]) h' → h'.get? 53 = some o' → h'.get? c2 = some oc' → TabS 53 19 4 qcr o' c2 oc' → base.get? c2 = none →
      h'.get? 152 = some o9' → h'.get? c92 = some oc9' → TabS 152 207 22 qlm o9' c92 oc9' → base.get? c92 = none → Tells v (walkV (35 :: r) strict ws 1) → Q v { s with heap := h', toks := tk }) :
    wpAny (MD w) (ar none dp un gd env outer) (call (.ref 157) [.str (S r) t0, .ref lw, .bool strict]) Q E s :=
  EC_walk.ck9.2 EC_walk.kk9 (((((w, base), h₀), ((outer, L), m)), (((env, news), dp), ((un, gd), s))), ((((Q, E), r), ((strict, ws), vs)), (((n, lw), c'), ((o, oc), t0)))) (c9 := c9) (o9 := o9) (oc9 := oc9) am hdp hun XB hTB hC57 hC156 hr h10 hws hvs hn hlw hm1 hm2 hT hm3 hm4 hT9 hret
end
end Mine
end
theorem Mine.e9s13 : True := trivial
section
open PySem PySem.Spec PySem.Calls PyProof.Rows PySem.W
set_option maxHeartbeats 4000000
namespace Mine
theorem enumI_cons {a : Itm} {r : List Itm} {j : Nat} {vs : List Value} {ns : List Int} (hxs : a :: r = enumItems j vs) (hvs : IntsAre vs ns) : Ex4 fun k tk vs' ns' => vs = .int k tk :: vs' ∧ ns = k :: ns' ∧ IntsAre vs' ns' := by
  cases vs with
  | nil => cases hxs
  | cons v vs' =>
    cases hvs with
    | cons k tk hvs => exact ⟨k, tk, vs', _, rfl, rfl, hvs⟩
theorem enumI_nil {j : Nat} {vs : List Value} (hxs : [] = enumItems j vs) : vs = [] := by
  cases vs with
  | nil => rfl
  | cons v vs' => cases hxs
structure BxR (P : Prop) : Prop where
  h : P
theorem stopE4 {M : Model} {A : Around} {x : Expr} {env : Env} {Q : Value → Shared → Prop} {E : Value → Shared → Prop} {s : Shared} (h : Hold (wpAny M A (eval x env) Q E s)) : wpAny M A (eval x env) Q E s := h
section
variable {prog : Program} {w : World} {A : Around} {E : Value → Shared → Prop} {s : Shared} {h₀ : Heap} {L l : Addr} {news : List (Addr × Obj)}
theorem kw33 : True := by
  (k_with "9eval ListComp" => ((fail_if_success first | have := @Mine.e9s14 | fail); with_unfolding_all (first | with_reducible refine stopE4 ?_ | refine stopE4 ?_)))
  (k_with "9exec For Tuple Call cons nil" => ((fail_if_success first | have := @Mine.e9s14 | fail); with_unfolding_all (first | with_reducible refine stopS3 ?_ | refine stopS3 ?_)))
  (k_with "9call type:enumerate" => ((fail_if_success first | have := @Mine.e9s14 | fail); with_unfolding_all (first | with_reducible refine stopC3 ?_ | refine stopC3 ?_)))
  (k_with "9call builtin:str.join" => ((fail_if_success first | have := @Mine.e9s14 | fail); with_unfolding_all (first | with_reducible refine stopC3 ?_ | refine stopC3 ?_)))
  trivial
theorem r_pick6 {value slice : Expr} {a b n : Nat} {k : Int} {t0 t1 t2 t3 t4 t5 u : Tok} {Q : Value → Shared → Prop} (N : News h₀ L s.heap news) (hm : (l, listOf #[.str (Str.ofString "") t0, .str (S [a]) t1, .str (S [b]) t2, .str (S [a]) t3, .str (S [b]) t4, .str (Str.ofString "#") t5] n) ∈ news)
    (h : ∀ (z : List Nat) t, z.length ≤ 1 → (∀ c ∈ z, c = a ∨ c = b ∨ c = 35) → Q (.str (S z) t) s)
    (hs : subscripted slice false (.ref l) (.int (k.fmod 6) u) = operate [.ref l, .int (k.fmod 6) u] (getItem (.ref l) (.int (k.fmod 6) u)) := by with_unfolding_all rfl) (hg : ∀ r, letTemporaryGo value (.ref l) r = pure () := by intro _; with_unfolding_all rfl) :
    wpAny (model prog w) A (subscriptTail value slice (.ref l) (.int (k.fmod 6) u)) Q E s := by
  have e0 : Str.ofString "" = S [] := by decide +kernel
  have e1 : Str.ofString "#" = S [35] := by decide +kernel
  rw [e0, e1] at hm
  have hk : k.fmod 6 = k % 6 := Int.fmod_eq_emod_of_nonneg k (by decide)
  have h0 : 0 ≤ k.fmod 6 := by omega
  have h6 : k.fmod 6 < 2 ^ 63 := by omega
  have key : ∃ z t, ([.str (S []) t0, .str (S [a]) t1, .str (S [b]) t2, .str (S [a]) t3, .str (S [b]) t4, .str (S [35]) t5] : List Value)[(k.fmod 6).toNat]? = some (.str (S z) t) ∧ z.length ≤ 1 ∧ ∀ c ∈ z, c = a ∨ c = b ∨ c = 35 := by
    have : (k.fmod 6).toNat = 0 ∨ (k.fmod 6).toNat = 1 ∨ (k.fmod 6).toNat = 2 ∨ (k.fmod 6).toNat = 3 ∨ (k.fmod 6).toNat = 4 ∨ (k.fmod 6).toNat = 5 := by omega
    rcases this with q | q | q | q | q | q <;> rw [q]
    · exact ⟨[], t0, rfl, by simp, by simp⟩
    · exact ⟨[a], t1, rfl, by simp, by simp⟩
    · exact ⟨[b], t2, rfl, by simp, by simp⟩
    · exact ⟨[a], t3, rfl, by simp, by simp⟩
    · exact ⟨[b], t4, rfl, by simp, by simp⟩
    · exact ⟨[35], t5, rfl, by simp, by simp⟩
  obtain ⟨z, t, hz, hl, hc⟩ := key
  exact bm_item N hm h0 h6 hz (h z t hl hc) hs hg
end
theorem paired_pick {a b : Nat} {vs ys : List Value} (hp : Paired (fun _ y => ∃ z t, y = Value.str (S z) t ∧ z.length ≤ 1 ∧ ∀ c ∈ z, c = a ∨ c = b ∨ c = 35) vs ys) :
    ∃ ls : List (List Nat), StrsAre ys (ls.map S) ∧ ls.length = vs.length ∧ ls.flatten.length ≤ vs.length ∧ ∀ c ∈ ls.flatten, c = a ∨ c = b ∨ c = 35 := by
  induction hp with
  | nil => exact ⟨[], .nil, rfl, by simp, by simp⟩
  | cons h1 _ ih =>
    obtain ⟨z, t, rfl, hl, hc⟩ := h1
    obtain ⟨ls, q1, q2, q3, q4⟩ := ih
    refine ⟨z :: ls, .cons _ _ q1, by simp [q2], by rw [List.flatten_cons, List.length_append, List.length_cons]; omega, fun c hm => ?_⟩
    rw [List.flatten_cons] at hm
    rcases List.mem_append.mp hm with hm | hm
    · exact hc c hm
    · exact q4 c hm
theorem mem3 {α : Type} {v a b c : α} (h : v ∈ [a, b, c]) : v = a ∨ v = b ∨ v = c := by simpa using h
theorem r_iadd {prog : Program} {w : World} {A : Around} {E : Value → Shared → Prop} {s : Shared} {x y : Str} {a b : List Nat} {t u : Tok} {Q : Value → Shared → Prop} (hx : x = S a) (hy : y = S b) (hn : a.length + b.length ≤ 16777216) (h : ∀ t' k, Q (.str (S (a ++ b)) t') { s with toks := k }) :
    wpAny (model prog w) A (inplaceOp .Add (.str x t) (.str y u)) Q E s := by
  subst hx hy
  exact SBL.iadd (fun t' k _ => by rw [S_app]; exact h t' k) (by rw [S_len, S_len, sizeLine_eq]; exact hn)
section
variable {w : World} {base h₀ : Heap} {outer : List Env} {L : Addr} {m : Str → Option Value} {env : Env} {news : List (Addr × Obj)}
  {hd : Option Value} {dp un : Nat} {gd : Option (List Code)} {s : Shared} {Q E : Value → Shared → Prop}
end
namespace EC_row
theorem kw34 : True := by
  (k_with "9inplaceOp Add str str" => ((fail_if_success first | have := @Mine.e9s14 | fail); with_unfolding_all (first | with_reducible refine r_iadd (a := []) (by decide +kernel) rfl ?hz ?_ | with_reducible refine r_iadd rfl rfl ?hz ?_ | refine r_iadd (a := []) (by decide +kernel) rfl ?hz ?_ | refine r_iadd rfl rfl ?hz ?_); (case hz => simp only [List.length_append, List.length_nil]; omega); intro _ _))
  (k_with "9subscriptTail Name BinOp ref int" => ((fail_if_success first | have := @Mine.e9s14 | fail); with_unfolding_all (first | with_reducible refine r_pick6 (by k_asm) (by k_mem) ?_ | refine r_pick6 (by k_asm) (by k_mem) ?_); intro z9 t9 hl9 hc9))
  trivial
noncomputable def Pk9 (w : World) (base : Heap) (h₀ : Heap) (outer : List Env) (L : Addr) (m : Str → Option Value) (env : Env) (news : List (Addr × Obj)) (dp : Nat) (un : Nat) (gd : Option (List Code)) (s : Shared) (Q : Value → Shared → Prop) (E : Value → Shared → Prop) (a : Nat) (b : Nat) (n0 : Int) (n1 : Int) (n2 : Int) (n3 : Int) (n4 : Int) (n5 : Int) (u0 : Tok) (u1 : Tok) (u2 : Tok) (u3 : Tok) (u4 : Tok) (u5 : Tok) (ta : Tok) (tb : Tok) (n : Nat) (nn : Nat) (ln : Addr) (ls : Addr) : Prop := ∀ (am : Amb w base h₀ L m env outer news s.heap) (hdp : dp < 400) (hn : ∀ k ∈ [n0, n1, n2, n3, n4, n5], 0 ≤ k ∧ k < 1000000) (hln : (ln, W.listOf #[.int n0 u0, .int n1 u1, .int n2 u2, .int n3 u3, .int n4 u4, .int n5 u5] n) ∈ news) (hls : (ls, W.listOf #[.str (S [a]) ta, .str (S [b]) tb] nn) ∈ news) (hret : ∀ (r : List Nat) t h' tk, s.heap.StaysIn h' → r.length ≤ 12 → (∀ c ∈ r, c = a ∨ c = b ∨ c = 35) → Q (.str (S r) t) { s with heap := h', toks := tk }),
    wpAny (MD w) (ar none dp un gd env outer) (call (.ref 150) [.ref ln, .ref ls]) Q E s
noncomputable def Pu9 (x : (((((((World) × (Heap)) × (Heap)) × ((List Env) × (Addr))) × (((Str → Option Value) × (Env)) × ((List (Addr × Obj)) × (Nat)))) × ((((Nat) × (Option (List Code))) × ((Shared) × (Value → Shared → Prop))) × (((Value → Shared → Prop) × (Nat)) × ((Nat) × (Int))))) × ((((((Int) × (Int)) × (Int)) × ((Int) × (Int))) × (((Tok) × (Tok)) × ((Tok) × (Tok)))) × ((((Tok) × (Tok)) × ((Tok) × (Tok))) × (((Nat) × (Nat)) × ((Addr) × (Addr))))))) : Prop := Pk9 x.1.1.1.1.1.1 x.1.1.1.1.1.2 x.1.1.1.1.2 x.1.1.1.2.1 x.1.1.1.2.2 x.1.1.2.1.1 x.1.1.2.1.2 x.1.1.2.2.1 x.1.1.2.2.2 x.1.2.1.1.1 x.1.2.1.1.2 x.1.2.1.2.1 x.1.2.1.2.2 x.1.2.2.1.1 x.1.2.2.1.2 x.1.2.2.2.1 x.1.2.2.2.2 x.2.1.1.1.1.1 x.2.1.1.1.1.2 x.2.1.1.1.2 x.2.1.1.2.1 x.2.1.1.2.2 x.2.1.2.1.1 x.2.1.2.1.2 x.2.1.2.2.1 x.2.1.2.2.2 x.2.2.1.1.1 x.2.2.1.1.2 x.2.2.1.2.1 x.2.2.1.2.2 x.2.2.2.1.1 x.2.2.2.1.2 x.2.2.2.2.1 x.2.2.2.2.2
noncomputable def ck9 : {x : _ // Pu9 x → ∀ y, Pu9 y} := Classical.choice (drink (by repeat (first | exact neS | exact neW | exact neA | refine ne2 ?_ ?_ | exact ⟨default⟩ | exact ⟨fun _ _ => True⟩ | exact ⟨fun _ => True⟩ | exact ⟨fun _ => default⟩ | exact ⟨fun _ _ => default⟩)))
noncomputable def w : World := ck9.1.1.1.1.1.1.1
noncomputable def base : Heap := ck9.1.1.1.1.1.1.2
noncomputable def h₀ : Heap := ck9.1.1.1.1.1.2
noncomputable def outer : List Env := ck9.1.1.1.1.2.1
noncomputable def L : Addr := ck9.1.1.1.1.2.2
noncomputable def m : Str → Option Value := ck9.1.1.1.2.1.1
noncomputable def env : Env := ck9.1.1.1.2.1.2
noncomputable def news : List (Addr × Obj) := ck9.1.1.1.2.2.1
noncomputable def dp : Nat := ck9.1.1.1.2.2.2
noncomputable def un : Nat := ck9.1.1.2.1.1.1
noncomputable def gd : Option (List Code) := ck9.1.1.2.1.1.2
noncomputable def s : Shared := ck9.1.1.2.1.2.1
noncomputable def Q : Value → Shared → Prop := ck9.1.1.2.1.2.2
noncomputable def E : Value → Shared → Prop := ck9.1.1.2.2.1.1
noncomputable def a : Nat := ck9.1.1.2.2.1.2
noncomputable def b : Nat := ck9.1.1.2.2.2.1
noncomputable def n0 : Int := ck9.1.1.2.2.2.2
noncomputable def n1 : Int := ck9.1.2.1.1.1.1.1
noncomputable def n2 : Int := ck9.1.2.1.1.1.1.2
noncomputable def n3 : Int := ck9.1.2.1.1.1.2
noncomputable def n4 : Int := ck9.1.2.1.1.2.1
noncomputable def n5 : Int := ck9.1.2.1.1.2.2
noncomputable def u0 : Tok := ck9.1.2.1.2.1.1
noncomputable def u1 : Tok := ck9.1.2.1.2.1.2
noncomputable def u2 : Tok := ck9.1.2.1.2.2.1
noncomputable def u3 : Tok := ck9.1.2.1.2.2.2
noncomputable def u4 : Tok := ck9.1.2.2.1.1.1
noncomputable def u5 : Tok := ck9.1.2.2.1.1.2
noncomputable def ta : Tok := ck9.1.2.2.1.2.1
noncomputable def tb : Tok := ck9.1.2.2.1.2.2
noncomputable def n : Nat := ck9.1.2.2.2.1.1
noncomputable def nn : Nat := ck9.1.2.2.2.1.2
noncomputable def ln : Addr := ck9.1.2.2.2.2.1
noncomputable def ls : Addr := ck9.1.2.2.2.2.2
theorem kk9 : Pk9 w base h₀ outer L m env news dp un gd s Q E a b n0 n1 n2 n3 n4 n5 u0 u1 u2 u3 u4 u5 ta tb n nn ln ls := by
  intro am hdp hn hln hls hret
  have htb : ∀ p ∈ [(ln, W.listOf #[.int n0 u0, .int n1 u1, .int n2 u2, .int n3 u3, .int n4 u4, .int n5 u5] n), (ls, W.listOf #[.str (S [a]) ta, .str (S [b]) tb] nn)], p ∈ news := List.forall_mem_cons.mpr ⟨hln, List.forall_mem_cons.mpr ⟨hls, List.forall_mem_nil _⟩⟩
  obtain ⟨⟨hn0, hn0'⟩, ⟨hn1, hn1'⟩, ⟨hn2, hn2'⟩, ⟨hn3, hn3'⟩, ⟨hn4, hn4'⟩, ⟨hn5, hn5'⟩⟩ : (0 ≤ n0 ∧ n0 < 1000000) ∧ (0 ≤ n1 ∧ n1 < 1000000) ∧ (0 ≤ n2 ∧ n2 < 1000000) ∧ (0 ≤ n3 ∧ n3 < 1000000) ∧ (0 ≤ n4 ∧ n4 < 1000000) ∧ (0 ≤ n5 ∧ n5 < 1000000) := by simpa using hn
  have mk9 : Clm := ⟨trivial⟩
  obtain ⟨⟨A₀, B⟩, F, X, N, ⟨p, loose, mean, mg, mb, T⟩, hf, hke⟩ := am
  have XX := Frag.In.keeps X (Fr.keep F)
  have hK : (fun (_ : OpenLaw) (_ : Params → Frag) => True) PySem.Challenge.rw_rx0047_01 Mine.hd0.heap_1 := by (k_fill; trivial)
  refine' wpAny_call (enterC (binds := [(Str.ofString "numbers", .ref ln), (Str.ofString "signs", .ref ls)]) B F N htb (Top.nolimit T) rfl hf hke ?ho_e19 ?hd_e19 ?hcd_e19 ?hroom_e19 ?hbind_e19 ?hkind_e19 ?hnd_e19 ?h_e19 ?hco_e19 ?hgen_e19 ?hk_e19)
  (case ho_e19 => exact XX _ _ (by k_is))
  (case hd_e19 => exact rfl)
  (case hcd_e19 => exact codeRec_of XX (by k_is))
  (case hroom_e19 => exact Nat.lt_of_lt_of_le hdp (by decide))
  (case hbind_e19 => first | exact BindsTo.of_eq rfl | exact binds_K XX rfl (by k_is) rfl rfl rfl)
  (case hkind_e19 => exact rfl)
  (case hnd_e19 => decide +kernel)
  (case hco_e19 => exact rfl)
  (case hgen_e19 => exact rfl)
  (case hk_e19 => exact rfl)
  intro g L' h₁ tk₁ cells' hg F' N' Y' B' st l1
  have X' := Frag.In.keeps X st
  have T' := Top.keeps T st
  (try k_lt l1)
  k_cells Y'
  rename_i c1 e1
  (try simp only [List.cons_append, List.nil_append] at N')
  (try dsimp only)
  (try k_fold)
  clear hK
  (try revert e1)
  (try revert T')
  (try revert X')
  (try revert l1)
  (try revert st)
  (try revert B')
  (try revert N')
  (try revert F')
  (try revert hg)
  (try revert hK)
  (try revert XX)
  (try revert hke)
  (try revert hf)
  (try revert T)
  (try revert N)
  (try revert X)
  (try revert F)
  (try revert B)
  (repeat ((rename (_ : Prop) => z9); (fail_if_success (have : Clm := z9)); revert z9))
  revert A₀ p loose mean mg mb g L' h₁ tk₁ c1
  (refine no_implicit_lambda% (close11 12223 ?ne_e1 (R := ?R_e1) ((?nw_e1 : ∀ A₀ p loose mean mg mb g L' h₁ tk₁ c1, ?R_e1 A₀ p loose mean mg mb g L' h₁ tk₁ c1) (Mine.cl 12223 ?ne_e1 (un11 ?R_e1)).1.1.1.1 (Mine.cl 12223 ?ne_e1 (un11 ?R_e1)).1.1.1.2 (Mine.cl 12223 ?ne_e1 (un11 ?R_e1)).1.1.2 (Mine.cl 12223 ?ne_e1 (un11 ?R_e1)).1.2.1.1 (Mine.cl 12223 ?ne_e1 (un11 ?R_e1)).1.2.1.2 (Mine.cl 12223 ?ne_e1 (un11 ?R_e1)).1.2.2 (Mine.cl 12223 ?ne_e1 (un11 ?R_e1)).2.1.1.1 (Mine.cl 12223 ?ne_e1 (un11 ?R_e1)).2.1.1.2 (Mine.cl 12223 ?ne_e1 (un11 ?R_e1)).2.1.2 (Mine.cl 12223 ?ne_e1 (un11 ?R_e1)).2.2.1 (Mine.cl 12223 ?ne_e1 (un11 ?R_e1)).2.2.2)))
  (case ne_e1 => repeat (first | exact ⟨default⟩ | exact neS | exact neW | exact neA | refine ne2 ?_ ?_))
  intro A₀ p loose mean mg mb g L' h₁ tk₁ c1
  (set_option tactic.hygienic false in intros)
  have mk9 : Clm := ⟨trivial⟩
  have fo9 : FoldOn := ⟨trivial⟩
  have e0 : Str.ofString "" = S [] := by decide +kernel
  k_steps
  unfold Hold
  walk_at "nm"
  (rename Fr _ _ _ _ => F')
  (try dsimp +zetaDelta only at F')
  rw [e0] at F'
  refine For_turns F' ?_
  k_steps
  unfold Hold
  walk_at "nm"
  have key9 : ∀ {l : Addr} {p : Addr × Obj} {k0 k5 : Tok} {c : Obj} {h9 : Heap} {rest : List (Addr × Obj)}, News g L' h9 (p :: (l, listOf #[.str (Str.ofString "") k0, .str (S [a]) ta, .str (S [b]) tb, .str (S [a]) ta, .str (S [b]) tb, .str (Str.ofString "#") k5] 0) :: (L' + 1, c) :: rest) → Ex4 fun (l' : Addr) (k0' k5' : Tok) (c' : Obj) => l' = l ∧ k0' = k0 ∧ k5' = k5 ∧ c' = c := fun {l p k0 k5 c _ _} _ => ⟨l, k0, k5, c, rfl, rfl, rfl, rfl⟩
  obtain ⟨lsh, k0, k5, oc, x1, x2, x3, x4⟩ := key9 N'
  subst x1
  subst x4
  clear key9
  obtain ⟨MB, F9⟩ := fr_oneR F' (x := Str.ofString "text") rfl
  have N9 := cb_drop (news := [(lsh, listOf #[.str (Str.ofString "") k0, .str (S [a]) ta, .str (S [b]) tb, .str (S [a]) ta, .str (S [b]) tb, .str (Str.ofString "#") k5] 0), (L' + 1, oc), (ln, W.listOf #[.int n0 u0, .int n1 u1, .int n2 u2, .int n3 u3, .int n4 u4, .int n5 u5] n), (ls, W.listOf #[.str (S [a]) ta, .str (S [b]) tb] nn)]) N' (by rw [x2, x3]; exact fun p hp => .tail _ hp)
  clear F' N'
  have F' := F9
  have N' := N9
  clear F9 N9 x2 x3
  refine ktu_enum (vs := [.int n0 u0, .int n1 u1, .int n2 u2, .int n3 u3, .int n4 u4, .int n5 u5]) rfl F' N' (by k_mem) rfl rfl rfl fun I hI => ?_
  k_lt hI
  let I1z : List Itm → (Str → Option Value) → List (Addr × Obj) → Prop := fun xs m2 news2 => BxR ((∀ p ∈ [(lsh, listOf #[.str (Str.ofString "") k0, .str (S [a]) ta, .str (S [b]) tb, .str (S [a]) ta, .str (S [b]) tb, .str (Str.ofString "#") k5] 0), (L' + 1, oc), (ln, W.listOf #[.int n0 u0, .int n1 u1, .int n2 u2, .int n3 u3, .int n4 u4, .int n5 u5] n), (ls, W.listOf #[.str (S [a]) ta, .str (S [b]) tb] nn)], p ∈ news2) ∧ Ex5 fun (j : Nat) (vs' : List Value) (ns' : List Int) (r : List Nat) (t : Tok) => xs = enumItems j vs' ∧ IntsAre vs' ns' ∧ (∀ k ∈ ns', 0 ≤ k ∧ k < 1000000) ∧ j + vs'.length = 6 ∧ r.length ≤ 4 * (j / 2) + j % 2 ∧ (∀ c ∈ r, c = a ∨ c = b ∨ c = 35) ∧ (∀ q ∈ [(Str.ofString "text", Value.str (S r) t)], m2 q.1 = some q.2) ∧ (∀ z, (∀ q ∈ [(Str.ofString "text", Value.str (S r) t)], z ≠ q.1) → [Str.ofString "place", Str.ofString "number", Str.ofString "figures"].contains z = false → m2 z = MB z))
  refine items_ind I1z ?step ?done _ _ _ ?start
  case start =>
    exact BxR.mk ⟨fun p hp => hp, 0, _, [n0, n1, n2, n3, n4, n5], [], _, rfl, .cons _ _ (.cons _ _ (.cons _ _ (.cons _ _ (.cons _ _ (.cons _ _ .nil))))), hn, rfl, by simp, (fun c hc => nomatch hc), List.forall_mem_cons.mpr ⟨rfl, List.forall_mem_nil _⟩, fun z hz _ => if_neg (hz _ (List.mem_cons_self ..))⟩
  case step =>
    clear F' N'
    intro a9 r9 m2 news2 hI
    refine gfold ?_
    intro G9
    obtain ⟨⟨hsub, j, vs0, ns0, r, t, hxs, hvs0, hns, hj, hr, hrc, g1, g2⟩⟩ := hI
    obtain ⟨k0', tk0', vs', ns', hq1, hq2, hvs⟩ := enumI_cons hxs hvs0
    clear hvs0
    subst hq1 hq2
    injection hxs with hy1 hy2
    intro v2 h2 tk2 ha2 F2
    subst hy1 hy2
    obtain ⟨T9, t9, rfl, hT9⟩ := ha2
    intro o1 q1 o2 q2 N2
    dsimp only at q1 q2
    have F' := ksw_fr g1 g2 F2
    have N' : News g L' h2 ((I + 1, o1) :: (I, o2) :: [(lsh, listOf #[.str (Str.ofString "") k0, .str (S [a]) ta, .str (S [b]) tb, .str (S [a]) ta, .str (S [b]) tb, .str (Str.ofString "#") k5] 0), (L' + 1, oc), (ln, W.listOf #[.int n0 u0, .int n1 u1, .int n2 u2, .int n3 u3, .int n4 u4, .int n5 u5] n), (ls, W.listOf #[.str (S [a]) ta, .str (S [b]) tb] nn)]) := cb_drop N2 (List.forall_mem_cons.mpr ⟨.head _, List.forall_mem_cons.mpr ⟨.tail _ (.head _), fun p hp => List.mem_append_right _ (hsub p hp)⟩⟩)
    dsimp only [kstB] at F'
    dsimp only at hT9
    clear N2 F2 hsub
    have hfm : ((j : Nat) : Int).fmod 2 = ((j % 2 : Nat) : Int) := by rw [Int.fmod_eq_emod_of_nonneg _ (by decide)]; omega
    have hl6 : 1 + vs'.length ≤ 6 - j := by simp at hj; omega
    have hr12 : r.length ≤ 12 := by omega
    k_steps
    · have hodd : j % 2 = 1 := by
        have h : ((j : Nat) : Int).fmod 2 ≠ 0 := by assumption
        rw [hfm] at h
        clear hfm
        omega
      unfold Hold
      walk_at "nm"
      (try rw [e0] at F')
      (with_reducible refine' compK (fun _ => true) (fun _ y => ∃ z t, y = .str (S z) t ∧ z.length ≤ 1 ∧ ∀ c ∈ z, c = a ∨ c = b ∨ c = 35) ?c1 ?c2 ?c3 ?c4 ?c5 ?c6 ?_ ?c7)
      (case c1 => exact rfl)
      (case c2 => with_unfolding_all rfl)
      (case c3 => decide)
      (case c4 => exact rfl)
      (case c5 => decide)
      (case c6 => exact rfl)
      (case c7 => intro _; exact rfl)
      k_steps
      unfold Hold
      walk_at "nm"
      refine ⟨_, _, rfl, N'.isList (.head _), (by rw [sizeLine_eq]; exact Nat.le_of_ble_eq_true rfl), ?ct1, ?ce1, ?ck1⟩
      case ct1 =>
        intro C v s₂ m₂ E' hv hC hn9 hx9 hk
        exact wpAny_pure ⟨rfl, Keeps_refl _⟩
      case ce1 =>
        intro C v s₂ m₂ E' hv _ hC hn9 hx9 hk
        rcases mem3 hv with rfl | rfl | rfl <;> (k_steps; all_goals first | exact ⟨_, _, rfl, fun _ _ e => e⟩ | exact hc9 _ (by assumption) | assumption)
      intro D ys h5 tk5 k5 hDn hpl5 hpr
      obtain ⟨ls1, hs1, hl1, hf1, hc1⟩ := paired_pick hpr
      have hL := Heap.PlainList.isList hpl5
      obtain ⟨nnD, hpl5⟩ := hpl5
      have F5 := backF F' k5
      have N5 := backA F' (backN N' k5) hpl5 hDn
      clear F' N'
      have F' := F5
      have N' := N5
      clear F5 N5 hpr
      k_steps
      unfold Hold
      walk_at "nm"
      simp only [List.filter_cons, List.filter_nil, if_true, List.length_cons, List.length_nil] at hl1 hf1
      refine r_join (ls := ls1) (by decide +kernel) hL hs1 (by omega) fun t' k => ?_
      clear hs1 hL
      k_steps
      walk_at "nm"
      refine BxR.mk ⟨(by first | exact fun p hp => hp | (intro p hp; exact .tail _ hp) | (intro p hp; exact .tail _ (.tail _ hp)) | (intro p hp; exact .tail _ (.tail _ (.tail _ hp)))), j + 1, vs', _, r ++ ls1.flatten, _, rfl, hvs, fun k hk => hns k (List.mem_cons_of_mem _ hk), by simp at hj; omega, (by rw [List.length_append]; omega), ?_, List.forall_mem_cons.mpr ⟨(by rw [← S_app]; rfl), List.forall_mem_nil _⟩, ?_⟩
      · intro c hm
        rcases List.mem_append.mp hm with hm | hm
        · exact hrc c hm
        · exact hc1 c hm
      · ksw_same
    · have heven : j % 2 = 0 := by
        have h : ((j : Nat) : Int).fmod 2 = 0 := by assumption
        rw [hfm] at h
        clear hfm
        omega
      unfold Hold
      walk_at "nm"
      (try rw [e0] at F')
      (with_reducible refine' compK (fun _ => true) (fun _ y => ∃ z t, y = .str (S z) t ∧ z.length ≤ 1 ∧ ∀ c ∈ z, c = a ∨ c = b ∨ c = 35) ?c1 ?c2 ?c3 ?c4 ?c5 ?c6 ?_ ?c7)
      (case c1 => exact rfl)
      (case c2 => with_unfolding_all rfl)
      (case c3 => decide)
      (case c4 => exact rfl)
      (case c5 => decide)
      (case c6 => exact rfl)
      (case c7 => intro _; exact rfl)
      k_steps
      unfold Hold
      walk_at "nm"
      refine ⟨_, _, rfl, N'.isList (.head _), (by rw [sizeLine_eq]; exact Nat.le_of_ble_eq_true rfl), ?ct2, ?ce2, ?ck2⟩
      case ct2 =>
        intro C v s₂ m₂ E' hv hC hn9 hx9 hk
        exact wpAny_pure ⟨rfl, Keeps_refl _⟩
      case ce2 =>
        intro C v s₂ m₂ E' hv _ hC hn9 hx9 hk
        have hv : v = _ := List.mem_singleton.mp hv
        subst hv
        k_steps
        all_goals first | exact ⟨_, _, rfl, fun _ _ e => e⟩ | exact hc9 _ (by assumption) | assumption
      intro D ys h5 tk5 k5 hDn hpl5 hpr
      obtain ⟨ls2, hs2, hl2, hf2, hc2⟩ := paired_pick hpr
      have hL := Heap.PlainList.isList hpl5
      obtain ⟨nnD, hpl5⟩ := hpl5
      have F5 := backF F' k5
      have N5 := backA F' (backN N' k5) hpl5 hDn
      clear F' N'
      have F' := F5
      have N' := N5
      clear F5 N5 hpr
      k_steps
      unfold Hold
      walk_at "nm"
      simp only [List.filter_cons, List.filter_nil, if_true, List.length_cons, List.length_nil] at hl2 hf2
      refine r_join (ls := ls2) (by decide +kernel) hL hs2 (by omega) fun t' k => ?_
      clear hs2 hL
      k_steps
      walk_at "nm"
      refine BxR.mk ⟨(by first | exact fun p hp => hp | (intro p hp; exact .tail _ hp) | (intro p hp; exact .tail _ (.tail _ hp)) | (intro p hp; exact .tail _ (.tail _ (.tail _ hp)))), j + 1, vs', _, r ++ ls2.flatten, _, rfl, hvs, fun k hk => hns k (List.mem_cons_of_mem _ hk), by simp at hj; omega, (by rw [List.length_append]; omega), ?_, List.forall_mem_cons.mpr ⟨(by rw [← S_app]; rfl), List.forall_mem_nil _⟩, ?_⟩
      · intro c hm
        rcases List.mem_append.mp hm with hm | hm
        · exact hrc c hm
        · exact hc2 c hm
      · ksw_same
  case done =>
    clear F' N'
    intro m2 news2 hI
    refine gfold ?_
    intro G9
    obtain ⟨⟨hsub, j, vs0, ns0, r, t, hxs, hvs0, hns, hj, hr, hrc, g1, g2⟩⟩ := hI
    obtain rfl := enumI_nil hxs
    clear hxs hvs0
    intro h2 tk2 F2 N2
    have F' := ksw_fr g1 g2 F2
    have N' := cb_drop N2 hsub
    dsimp only [kstB] at F'
    k_steps
    (try dsimp only)
    walk_at "nm"
    have hs := stays hg N htb F' N' (by repeat (first | exact List.forall_mem_nil _ | refine List.forall_mem_cons.mpr ⟨by k_mem, ?_⟩))
    have hj6 : j = 6 := by simpa using hj
    subst hj6
    exact hret _ _ _ _ hs (by omega) hrc
end EC_row
section
variable {w : World} {base h₀ : Heap} {outer : List Env} {L : Addr} {m : Str → Option Value} {env : Env} {news : List (Addr × Obj)}
  {hd : Option Value} {dp un : Nat} {gd : Option (List Code)} {s : Shared} {Q E : Value → Shared → Prop}
theorem C_row {a b : Nat} {n0 n1 n2 n3 n4 n5 : Int} {u0 u1 u2 u3 u4 u5 ta tb : Tok} {n nn : Nat} {ln ls : Addr} (am : Amb w base h₀ L m env outer news s.heap) (hdp : dp < 400)
    (hn : ∀ k ∈ [n0, n1, n2, n3, n4, n5], 0 ≤ k ∧ k < 1000000)
    (hln : (ln, W.listOf #[.int n0 u0, .int n1 u1, .int n2 u2, .int n3 u3, .int n4 u4, .int n5 u5] n) ∈ news) (hls : (ls, W.listOf #[.str (S [a]) ta, .str (S [b]) tb] nn) ∈ news)
    (hret : ∀ (r : List Nat) t h' tk, s.heap.StaysIn h' → r.length ≤ 12 → (∀ c ∈ r, c = a ∨ c = b ∨ c = 35) → Q (.str (S r) t) { s with heap := h', toks := tk }) :
    wpAny (MD w) (ar none dp un gd env outer) (call (.ref 150) [.ref ln, .ref ls]) Q E s :=
  EC_row.ck9.2 EC_row.kk9 ((((((w, base), h₀), (outer, L)), ((m, env), (news, dp))), (((un, gd), (s, Q)), ((E, a), (b, n0)))), (((((n1, n2), n3), (n4, n5)), ((u0, u1), (u2, u3))), (((u4, u5), (ta, tb)), ((n, nn), (ln, ls))))) am hdp hn hln hls hret
end
end Mine
end
theorem Mine.e9s14 : True := trivial
section
open PySem PySem.Spec PySem.Calls PyProof.Rows PySem.W PyProof.V
set_option maxHeartbeats 4000000
namespace Mine
theorem kw35 : True := by
  (k_with "9exec For Tuple Call cons nil" => ((fail_if_success first | have := @Mine.e9s15 | fail); with_unfolding_all (first | with_reducible refine stopS3 ?_ | refine stopS3 ?_)))
  (k_with "9call type:zip" => ((fail_if_success first | have := @Mine.e9s15 | fail); with_unfolding_all (first | with_reducible refine stopC3 ?_ | refine stopC3 ?_)))
  (k_with "9call type:enumerate" => ((fail_if_success first | have := @Mine.e9s15 | fail); with_unfolding_all (first | with_reducible refine stopC3 ?_ | refine stopC3 ?_)))
  trivial
theorem stock_lt : ∀ c ∈ stockL, c < 128 := by decide
theorem in_three : ∀ c ∈ [42, 63, 91], (PySem.Builtin.Str.occurrences (Str.ofString "*?[") (S [c]) 0 (Str.ofString "*?[").length 1).isEmpty = false := by decide +kernel
theorem in_bares : ∀ c ∈ stockL, c ∉ [42, 63, 91] → c ∈ bares := by decide
theorem r_eqint {prog : Program} {w : World} {A : Around} {E : Value → Shared → Prop} {s : Shared} {a c : Int} {t u : Tok} {Q : Value → Shared → Prop} (b : Bool) (hb : (a == c) = b) (h : Q (.bool b) s) : wpAny (model prog w) A (compareOp .Eq (.int a t) (.int c u)) Q E s :=
  eq_int (by rw [hb]; exact h)
theorem kw36 : True := by
  (k_with "9compareOp Eq int int" => ((fail_if_success first | have := @Mine.e9s15 | fail); with_unfolding_all first | with_reducible refine r_eqint true (by assumption) ?_ | with_reducible refine r_eqint false (by assumption) ?_ | refine r_eqint true (by assumption) ?_ | refine r_eqint false (by assumption) ?_))
  trivial
theorem r_notinC {prog : Program} {w : World} {A : Around} {E : Value → Shared → Prop} {s : Shared} {t u : Tok} {Q : Value → Shared → Prop} {l : List Nat} {d : Nat} {x : Str} (hx : x = S l) (hd : d ∉ l) (h : Q (.bool true) s) : wpAny (model prog w) A (compareOp .NotIn (.str (S [d]) u) (.str x t)) Q E s := by
  subst hx; exact r_notin0 rfl hd h
theorem kw37 : True := by
  (k_with "9compareOp NotIn str str" => ((fail_if_success first | have := @Mine.e9s15 | fail); with_unfolding_all first | with_reducible refine r_notin1 (by assumption) ?_ | with_reducible refine r_notinC (l := [42, 63, 91]) (by decide +kernel) (by assumption) ?_ | refine r_notin1 (by assumption) ?_ | refine r_notinC (l := [42, 63, 91]) (by decide +kernel) (by assumption) ?_))
  trivial
theorem r_iadd2 {prog : Program} {w : World} {A : Around} {E : Value → Shared → Prop} {s : Shared} {x y : Str} {a b : List Nat} {t u : Tok} {Q : Value → Shared → Prop} (hx : x = S a) (hy : y = S b) (hn : a.length + b.length ≤ 16777216) (h : ∀ t' k, Q (.str (S (a ++ b)) t') { s with toks := k }) :
    wpAny (model prog w) A (inplaceOp .Add (.str x t) (.str y u)) Q E s := by
  subst hx hy
  exact SBL.iadd (fun t' k _ => by rw [S_app]; exact h t' k) (by rw [S_len, S_len, sizeLine_eq]; exact hn)
theorem r_add2 {prog : Program} {w : World} {A : Around} {E : Value → Shared → Prop} {s : Shared} {x y : Str} {a b : List Nat} {t u : Tok} {Q : Value → Shared → Prop} (hx : x = S a) (hy : y = S b) (hn : a.length + b.length ≤ 16777216) (h : ∀ t' k, Q (.str (S (a ++ b)) t') { s with toks := k }) :
    wpAny (model prog w) A (binaryOp .Add (.str x t) (.str y u)) Q E s := by
  subst hx hy; exact r_add hn h
theorem kw38 : True := by
  (k_with "9inplaceOp Add str str" => ((fail_if_success first | have := @Mine.e9s15 | fail); with_unfolding_all (first | with_reducible refine r_iadd2 rfl (b := [42]) (by decide +kernel) ?hz ?_ | with_reducible refine r_iadd2 rfl rfl ?hz ?_ | refine r_iadd2 rfl (b := [42]) (by decide +kernel) ?hz ?_ | refine r_iadd2 rfl rfl ?hz ?_); (case hz => simp only [List.length_append, List.length_cons, List.length_nil]; omega); intro _ _))
  (k_with "9binaryOp Add str str" => ((fail_if_success first | have := @Mine.e9s15 | fail); with_unfolding_all (first | with_reducible refine r_add2 (a := [91]) (by decide +kernel) rfl ?hz ?_ | with_reducible refine r_add2 rfl (b := [93]) (by decide +kernel) ?hz ?_ | refine r_add2 (a := [91]) (by decide +kernel) rfl ?hz ?_ | refine r_add2 rfl (b := [93]) (by decide +kernel) ?hz ?_); (case hz => simp only [List.length_append, List.length_cons, List.length_nil]; omega); intro _ _))
  trivial
theorem zip_cons {a : Itm} {r : List Itm} {vs ds : List Value} {ns : List Int} {ws : List (List Nat)} (hxs : a :: r = zipItems vs ds) (hns : IntsAre ds ns) (hws : StrsAre vs (ws.map S)) :
    Ex8 fun x ws' tx vs' dk td ds' ns' => ws = x :: ws' ∧ vs = .str (S x) tx :: vs' ∧ ds = .int dk td :: ds' ∧ ns = dk :: ns' ∧ IntsAre ds' ns' ∧ StrsAre vs' (ws'.map S) := by
  cases vs with
  | nil => cases hxs
  | cons v1 vs' =>
    cases ds with
    | nil => cases hxs
    | cons d1 ds' =>
      cases ws with
      | nil => cases hws
      | cons x ws' =>
        cases hws with
        | cons _ tx hws' =>
          cases hns with
          | cons dk td hns => exact ⟨x, ws', tx, vs', dk, td, ds', _, rfl, rfl, rfl, rfl, hns, hws'⟩
theorem zip_nil {vs ds : List Value} {ws : List (List Nat)} (hxs : [] = zipItems vs ds) (hle : vs.length ≤ ds.length) (hws : StrsAre vs (ws.map S)) : ws = [] := by
  cases vs with
  | cons v1 vs' =>
    cases ds with
    | nil => simp at hle
    | cons d1 ds' => cases hxs
  | nil =>
    cases ws with
    | cons x ws' => cases hws
    | nil => rfl
theorem enum_cons {a : Itm} {r : List Itm} {j : Nat} {l : List Nat} (h : a :: r = enumS j l) : ∃ c l', l = c :: l' := by
  cases l with
  | nil => cases h
  | cons c l => exact ⟨c, l, rfl⟩
theorem enum_nil {j : Nat} {l : List Nat} (h : [] = enumS j l) : l = [] := by
  cases l with
  | nil => rfl
  | cons c l => cases h
structure Bx (P : Prop) : Prop where
  h : P
theorem tsD_snoc (dw : List (List Tk)) (d : List Tk) : tsD (dw ++ [d]) = tsD dw ++ (d ++ [.star]) := by unfold tsD; simp
theorem flat_snoc (dw : List (List Tk)) (d : List Tk) : flat (tsD (dw ++ [d])) = flat (tsD dw) ++ flat d ++ [42] := by
  rw [tsD_snoc, flat_app, flat_app, List.append_assoc]; rfl
section
variable {w : World} {base h₀ : Heap} {outer : List Env} {L : Addr} {m : Str → Option Value} {env : Env} {news : List (Addr × Obj)}
  {hd : Option Value} {dp un : Nat} {gd : Option (List Code)} {s : Shared} {Q E : Value → Shared → Prop}
end
namespace EC_pat
noncomputable def Pk9 (w : World) (base : Heap) (h₀ : Heap) (outer : List Env) (L : Addr) (m : Str → Option Value) (env : Env) (news : List (Addr × Obj)) (dp : Nat) (un : Nat) (gd : Option (List Code)) (s : Shared) (Q : Value → Shared → Prop) (E : Value → Shared → Prop) (ws : List (List Nat)) (vs : List Value) (ds : List Value) (ns : List Int) (n : Nat) (n2 : Nat) (lw : Addr) (ld : Addr) : Prop := ∀ (am : Amb w base h₀ L m env outer news s.heap) (hdp : dp < 400) (hvs : StrsAre vs (ws.map S)) (hds : IntsAre ds ns) (hlen : ws.length ≤ ns.length) (h3 : ws.length ≤ 3) (hn : ∀ k ∈ ns, 0 ≤ k ∧ k < 4) (hw : ∀ x ∈ ws, x ≠ [] ∧ x.length ≤ 2 ∧ ∀ c ∈ x, c ∈ stockL) (hlw : (lw, W.listOf (List.toArray vs) n) ∈ news) (hld : (ld, W.listOf (List.toArray ds) n2) ∈ news) (hret : ∀ dw t h' tk, s.heap.StaysIn h' → OkD dw → wordsD dw = ws → Q (.str (S (flat (tsD dw))) t) { s with heap := h', toks := tk }),
    wpAny (MD w) (ar none dp un gd env outer) (call (.ref 145) [.ref lw, .ref ld]) Q E s
noncomputable def Pu9 (x : ((((((World) × (Heap)) × (Heap)) × (((List Env) × (Addr)) × (Str → Option Value))) × ((((Env) × (List (Addr × Obj))) × (Nat)) × ((Nat) × (Option (List Code))))) × (((((Shared) × (Value → Shared → Prop)) × (Value → Shared → Prop)) × (((List (List Nat)) × (List Value)) × (List Value))) × ((((List Int) × (Nat)) × (Nat)) × ((Addr) × (Addr)))))) : Prop := Pk9 x.1.1.1.1.1 x.1.1.1.1.2 x.1.1.1.2 x.1.1.2.1.1 x.1.1.2.1.2 x.1.1.2.2 x.1.2.1.1.1 x.1.2.1.1.2 x.1.2.1.2 x.1.2.2.1 x.1.2.2.2 x.2.1.1.1.1 x.2.1.1.1.2 x.2.1.1.2 x.2.1.2.1.1 x.2.1.2.1.2 x.2.1.2.2 x.2.2.1.1.1 x.2.2.1.1.2 x.2.2.1.2 x.2.2.2.1 x.2.2.2.2
noncomputable def ck9 : {x : _ // Pu9 x → ∀ y, Pu9 y} := Classical.choice (drink (by repeat (first | exact neS | exact neW | exact neA | refine ne2 ?_ ?_ | exact ⟨default⟩ | exact ⟨fun _ _ => True⟩ | exact ⟨fun _ => True⟩ | exact ⟨fun _ => default⟩ | exact ⟨fun _ _ => default⟩)))
noncomputable def w : World := ck9.1.1.1.1.1.1
noncomputable def base : Heap := ck9.1.1.1.1.1.2
noncomputable def h₀ : Heap := ck9.1.1.1.1.2
noncomputable def outer : List Env := ck9.1.1.1.2.1.1
noncomputable def L : Addr := ck9.1.1.1.2.1.2
noncomputable def m : Str → Option Value := ck9.1.1.1.2.2
noncomputable def env : Env := ck9.1.1.2.1.1.1
noncomputable def news : List (Addr × Obj) := ck9.1.1.2.1.1.2
noncomputable def dp : Nat := ck9.1.1.2.1.2
noncomputable def un : Nat := ck9.1.1.2.2.1
noncomputable def gd : Option (List Code) := ck9.1.1.2.2.2
noncomputable def s : Shared := ck9.1.2.1.1.1.1
noncomputable def Q : Value → Shared → Prop := ck9.1.2.1.1.1.2
noncomputable def E : Value → Shared → Prop := ck9.1.2.1.1.2
noncomputable def ws : List (List Nat) := ck9.1.2.1.2.1.1
noncomputable def vs : List Value := ck9.1.2.1.2.1.2
noncomputable def ds : List Value := ck9.1.2.1.2.2
noncomputable def ns : List Int := ck9.1.2.2.1.1.1
noncomputable def n : Nat := ck9.1.2.2.1.1.2
noncomputable def n2 : Nat := ck9.1.2.2.1.2
noncomputable def lw : Addr := ck9.1.2.2.2.1
noncomputable def ld : Addr := ck9.1.2.2.2.2
theorem kk9 : Pk9 w base h₀ outer L m env news dp un gd s Q E ws vs ds ns n n2 lw ld := by
  intro am hdp hvs hds hlen h3 hn hw hlw hld hret
  have htb : ∀ p ∈ [(lw, W.listOf (List.toArray vs) n), (ld, W.listOf (List.toArray ds) n2)], p ∈ news := List.forall_mem_cons.mpr ⟨hlw, List.forall_mem_cons.mpr ⟨hld, List.forall_mem_nil _⟩⟩
  have mk9 : Clm := ⟨trivial⟩
  obtain ⟨⟨A₀, B⟩, F, X, N, ⟨p, loose, mean, mg, mb, T⟩, hf, hke⟩ := am
  have XX := Frag.In.keeps X (Fr.keep F)
  have hK : (fun (_ : OpenLaw) (_ : Params → Frag) => True) PySem.Challenge.rw_rx0047_01 Mine.hd0.heap_1 := by (k_fill; trivial)
  refine' wpAny_call (enter (binds := [(Str.ofString "words", .ref lw), (Str.ofString "dresses", .ref ld)]) B F N htb (Top.nolimit T) rfl hf hke ?ho_e20 ?hd_e20 ?hcd_e20 ?hroom_e20 ?hbind_e20 ?hloc_e20 ?h_e20 ?hcell_e20 ?hco_e20 ?hgen_e20 ?hk_e20)
  (case ho_e20 => exact XX _ _ (by k_is))
  (case hd_e20 => exact rfl)
  (case hcd_e20 => exact codeRec_of XX (by k_is))
  (case hroom_e20 => exact Nat.lt_of_lt_of_le hdp (by decide))
  (case hbind_e20 => first | exact BindsTo.of_eq rfl | exact binds_K XX rfl (by k_is) rfl rfl rfl)
  (case hloc_e20 => exact locs rfl)
  (case hcell_e20 => decide)
  (case hco_e20 => exact rfl)
  (case hgen_e20 => exact rfl)
  (case hk_e20 => exact rfl)
  intro g L' h₁ tk₁ hg F' N' B' st l1
  have X' := Frag.In.keeps X st
  have T' := Top.keeps T st
  (try k_lt l1)
  (try dsimp only)
  (try k_fold)
  clear hK
  (try revert T')
  (try revert X')
  (try revert l1)
  (try revert st)
  (try revert B')
  (try revert N')
  (try revert F')
  (try revert hg)
  (try revert hK)
  (try revert XX)
  (try revert hke)
  (try revert hf)
  (try revert T)
  (try revert N)
  (try revert X)
  (try revert F)
  (try revert B)
  (repeat ((rename (_ : Prop) => z9); (fail_if_success (have : Clm := z9)); revert z9))
  revert A₀ p loose mean mg mb g L' h₁ tk₁
  (refine no_implicit_lambda% (close10 12223 ?ne_e1 (R := ?R_e1) ((?nw_e1 : ∀ A₀ p loose mean mg mb g L' h₁ tk₁, ?R_e1 A₀ p loose mean mg mb g L' h₁ tk₁) (Mine.cl 12223 ?ne_e1 (un10 ?R_e1)).1.1.1.1 (Mine.cl 12223 ?ne_e1 (un10 ?R_e1)).1.1.1.2 (Mine.cl 12223 ?ne_e1 (un10 ?R_e1)).1.1.2 (Mine.cl 12223 ?ne_e1 (un10 ?R_e1)).1.2.1 (Mine.cl 12223 ?ne_e1 (un10 ?R_e1)).1.2.2 (Mine.cl 12223 ?ne_e1 (un10 ?R_e1)).2.1.1.1 (Mine.cl 12223 ?ne_e1 (un10 ?R_e1)).2.1.1.2 (Mine.cl 12223 ?ne_e1 (un10 ?R_e1)).2.1.2 (Mine.cl 12223 ?ne_e1 (un10 ?R_e1)).2.2.1 (Mine.cl 12223 ?ne_e1 (un10 ?R_e1)).2.2.2)))
  (case ne_e1 => repeat (first | exact ⟨default⟩ | exact neS | exact neW | exact neA | refine ne2 ?_ ?_))
  intro A₀ p loose mean mg mb g L' h₁ tk₁
  (set_option tactic.hygienic false in intros)
  have mk9 : Clm := ⟨trivial⟩
  have fo9 : FoldOn := ⟨trivial⟩
  have e42 : Str.ofString "*" = S [42] := by decide +kernel
  k_steps
  unfold Hold
  walk_at "nm"
  refine For_turns F' ?_
  k_steps
  unfold Hold
  walk_at "nm"
  (rename Fr _ _ _ _ => F')
  (try dsimp +zetaDelta only at F')
  rw [e42] at F'
  refine ktu_zip (xs := vs) (ys := ds) rfl F' N' (by k_mem) rfl rfl (by k_mem) rfl rfl fun I hI => ?_
  k_lt hI
  refine items_ind (fun xs m1 news1 => Bx ((∀ p ∈ [(lw, W.listOf (List.toArray vs) n), (ld, W.listOf (List.toArray ds) n2)], p ∈ news1) ∧ Ex6 fun vs' ds' dw t ns' ws' => xs = zipItems vs' ds' ∧ vs'.length ≤ ds'.length ∧ IntsAre ds' ns' ∧ (∀ k ∈ ns', 0 ≤ k ∧ k < 4) ∧ OkD dw ∧ StrsAre vs' (ws'.map S) ∧ wordsD dw ++ ws' = ws ∧
      (∀ q ∈ [(Str.ofString "text", Value.str (S (flat (tsD dw))) t)], m1 q.1 = some q.2) ∧ (∀ z, (∀ q ∈ [(Str.ofString "text", Value.str (S (flat (tsD dw))) t)], z ≠ q.1) → [Str.ofString "word", Str.ofString "dress", Str.ofString "place", Str.ofString "sign", Str.ofString "bare"].contains z = false → m1 z = List.lookup z [(Str.ofString "words", Value.ref lw), (Str.ofString "dresses", .ref ld)].reverse))) ?step ?done _ _ _ ?start
  case start =>
    refine Bx.mk ?_
    refine ⟨fun p hp => hp, vs, ds, [], _, ns, ws, rfl, ?_, hds, hn, (fun d hd => nomatch (show d ∈ ([] : List (List Tk)) from hd)), hvs, rfl, List.forall_mem_cons.mpr ⟨rfl, List.forall_mem_nil _⟩, fun z hz _ => ?_⟩
    · rw [hvs.length, List.length_map, hds.length]; exact hlen
    · exact if_neg (hz _ (List.mem_cons_self ..))
  case step =>
    clear F' N'
    intro a r m1 news1 hI
    refine gfold ?_
    intro G9
    obtain ⟨⟨hsub, vs0, ds0, dw, t, ns0, ws0, hxs, hle, hns0, hnb, hok, hws0, hcat, e1, e2⟩⟩ := hI
    obtain ⟨x, ws', tx, vs', dk, td, ds', ns', hq1, hq2, hq3, hq4, hns, hws'⟩ := zip_cons hxs hns0 hws0
    clear hns0 hws0
    subst hq1 hq2 hq3 hq4
    injection hxs with hxs1 hxs2
    obtain ⟨x1, x2, x3⟩ := hw x (by rw [← hcat]; simp)
    obtain ⟨hd0, hd4⟩ := hnb dk (List.mem_cons_self ..)
    have hdl : dw.length ≤ 3 := by
      have := congrArg List.length hcat
      simp [wordsD] at this; omega
    have hfl : (flat (tsD dw)).length ≤ 22 := Nat.le_trans (flat_tsD hok) (by omega)
    intro v h1 tk1 ha F1
    subst hxs1 hxs2
    obtain ⟨T9, t9, rfl, hT9⟩ := ha
    intro o1 q1 o2 q2 o3 q3 o4 q4 o5 q5 N1
    have F' := ksw_fr e1 e2 F1
    have N' : News g L' h1 [(I + 4, o1), (I + 2, o2), (I + 3, o3), (I, o4), (I + 1, o5), (lw, W.listOf (List.toArray vs) n), (ld, W.listOf (List.toArray ds) n2)] := cb_drop N1 (List.forall_mem_cons.mpr ⟨.head _, List.forall_mem_cons.mpr ⟨.tail _ (.head _), List.forall_mem_cons.mpr ⟨.tail _ (.tail _ (.head _)), List.forall_mem_cons.mpr ⟨.tail _ (.tail _ (.tail _ (.head _))), List.forall_mem_cons.mpr ⟨.tail _ (.tail _ (.tail _ (.tail _ (.head _)))), fun p hp => List.mem_append_right _ (hsub p hp)⟩⟩⟩⟩⟩)
    dsimp only [kstB] at F'
    dsimp only at hT9
    k_steps
    unfold Hold
    walk_at "nm"
    refine For_turns F' ?_
    k_steps
    unfold Hold
    walk_at "nm"
    refine ktu_enumS rfl F' N' (fun c hc => stock_lt c (x3 c hc)) fun I2 hI2 => ?_
    k_lt hI2
    refine items_ind (fun xs m2 news2 => Bx ((∀ p ∈ [(I + 4, o1), (I + 2, o2), (I + 3, o3), (I, o4), (I + 1, o5), (lw, W.listOf (List.toArray vs) n), (ld, W.listOf (List.toArray ds) n2)], p ∈ news2) ∧ Ex3 fun rest tks t2 => xs = enumS tks.length rest ∧ tks.map Tk.chr ++ rest = x ∧ (∀ y ∈ tks, y.isSign ∧ y.ok) ∧
        (∀ q ∈ [(Str.ofString "text", Value.str (S (flat (tsD dw) ++ flat tks)) t2), (Str.ofString "dress", Value.int dk td)], m2 q.1 = some q.2) ∧ (∀ z, (∀ q ∈ [(Str.ofString "text", Value.str (S (flat (tsD dw) ++ flat tks)) t2), (Str.ofString "dress", Value.int dk td)], z ≠ q.1) → [Str.ofString "word", Str.ofString "dress", Str.ofString "place", Str.ofString "sign", Str.ofString "bare"].contains z = false → m2 z = List.lookup z [(Str.ofString "words", Value.ref lw), (Str.ofString "dresses", .ref ld)].reverse))) ?step2 ?done2 _ _ _ ?start2
    case start2 =>
      refine Bx.mk ?_
      refine ⟨fun p hp => hp, x, [], t, rfl, rfl, (fun y hy => nomatch hy), List.forall_mem_cons.mpr ⟨(by rw [show flat ([] : List Tk) = [] from rfl, List.append_nil]; rfl), List.forall_mem_cons.mpr ⟨rfl, List.forall_mem_nil _⟩⟩, ?_⟩
      ksw_same
    case step2 =>
      clear F' N'
      intro a2 r2 m2 news2 hI2x
      refine gfold ?_
      intro G9
      obtain ⟨⟨hsub2, rest0, tks, t2, hxs2, hcat2, hsg, g1, g2⟩⟩ := hI2x
      obtain ⟨c, rest, hq5⟩ := enum_cons hxs2
      subst hq5
      injection hxs2 with hy1 hy2
      intro v2 h2 tk2 ha2 F2
      subst hy1 hy2
      obtain ⟨T2, t8, v8, rfl, hfl8, hT8⟩ := ha2
      obtain ⟨u8, rfl⟩ := Flat.str_inv hfl8
      intro o6 q6 o7 q7 N2
      have F' := ksw_fr g1 g2 F2
      have N' : News g L' h2 [(I2 + 1, o6), (I2, o7), (I + 4, o1), (I + 2, o2), (I + 3, o3), (I, o4), (I + 1, o5), (lw, W.listOf (List.toArray vs) n), (ld, W.listOf (List.toArray ds) n2)] := cb_drop N2 (List.forall_mem_cons.mpr ⟨.head _, List.forall_mem_cons.mpr ⟨.tail _ (.head _), fun p hp => List.mem_append_right _ (hsub2 p hp)⟩⟩)
      dsimp only [kstB] at F'
      dsimp only at hT8
      have hcl := congrArg List.length hcat2
      rw [List.length_append, List.length_map, List.length_cons] at hcl
      have hfk := flat_le3 tks
      have hcs : c ∈ stockL := x3 c (by rw [← hcat2]; simp)
      have put : ∀ y : Tk, y.isSign → y.ok → y.chr = c → (tks ++ [y]).map Tk.chr ++ rest = x ∧ (∀ y' ∈ tks ++ [y], y'.isSign ∧ y'.ok) ∧ enumS (tks.length + 1) rest = enumS (tks ++ [y]).length rest := fun y hy1 hy2 hy3 => ⟨by rw [← hcat2]; simp [hy3], fun y' hy' => by
        rcases List.mem_append.mp hy' with q | q
        · exact hsg y' q
        · rw [List.mem_singleton.mp q]; exact ⟨hy1, hy2⟩, by simp⟩
      by_cases hc : c ∈ [42, 63, 91]
      · have hin : (PySem.Builtin.Str.occurrences (Str.ofString "*?[") (S [c]) 0 (Str.ofString "*?[").length 1).isEmpty = false := in_three c hc
        rcases (by omega : tks.length = 0 ∨ tks.length = 1) with hj | hj
        · skip
          have hT9' : IsTup h2 T2 #[.int 0 t8, .str (S [c]) u8] := by rw [hj] at hT8; exact hT8
          clear hT8
          cases hA : ((dk.fdiv (2 ^ Int.toNat 0)).fmod 2 == 0)
          · k_steps
            walk_at "nm"
            refine Bx.mk ?_
            obtain ⟨p1, p2, p3⟩ := put (.boxed c) trivial hcs rfl
            refine ⟨(fun p hp => hp), rest, tks ++ [(.boxed c)], _, p3, p1, p2, List.forall_mem_cons.mpr ⟨(by rw [flat_app, ← List.append_assoc]; rfl), List.forall_mem_cons.mpr ⟨rfl, List.forall_mem_nil _⟩⟩, ?_⟩
            ksw_same
          · k_steps
            walk_at "nm"
            refine Bx.mk ?_
            obtain ⟨p1, p2, p3⟩ := put (.boxed c) trivial hcs rfl
            refine ⟨(fun p hp => hp), rest, tks ++ [(.boxed c)], _, p3, p1, p2, List.forall_mem_cons.mpr ⟨(by rw [flat_app, ← List.append_assoc]; rfl), List.forall_mem_cons.mpr ⟨rfl, List.forall_mem_nil _⟩⟩, ?_⟩
            ksw_same
        · skip
          have hT9' : IsTup h2 T2 #[.int 1 t8, .str (S [c]) u8] := by rw [hj] at hT8; exact hT8
          clear hT8
          cases hA : ((dk.fdiv (2 ^ Int.toNat 1)).fmod 2 == 0)
          · k_steps
            walk_at "nm"
            refine Bx.mk ?_
            obtain ⟨p1, p2, p3⟩ := put (.boxed c) trivial hcs rfl
            refine ⟨(fun p hp => hp), rest, tks ++ [(.boxed c)], _, p3, p1, p2, List.forall_mem_cons.mpr ⟨(by rw [flat_app, ← List.append_assoc]; rfl), List.forall_mem_cons.mpr ⟨rfl, List.forall_mem_nil _⟩⟩, ?_⟩
            ksw_same
          · k_steps
            walk_at "nm"
            refine Bx.mk ?_
            obtain ⟨p1, p2, p3⟩ := put (.boxed c) trivial hcs rfl
            refine ⟨(fun p hp => hp), rest, tks ++ [(.boxed c)], _, p3, p1, p2, List.forall_mem_cons.mpr ⟨(by rw [flat_app, ← List.append_assoc]; rfl), List.forall_mem_cons.mpr ⟨rfl, List.forall_mem_nil _⟩⟩, ?_⟩
            ksw_same
      · rcases (by omega : tks.length = 0 ∨ tks.length = 1) with hj | hj
        · skip
          have hT9' : IsTup h2 T2 #[.int 0 t8, .str (S [c]) u8] := by rw [hj] at hT8; exact hT8
          clear hT8
          cases hA : ((dk.fdiv (2 ^ Int.toNat 0)).fmod 2 == 0)
          · k_steps
            walk_at "nm"
            refine Bx.mk ?_
            obtain ⟨p1, p2, p3⟩ := put (.boxed c) trivial hcs rfl
            refine ⟨(fun p hp => hp), rest, tks ++ [(.boxed c)], _, p3, p1, p2, List.forall_mem_cons.mpr ⟨(by rw [flat_app, ← List.append_assoc]; rfl), List.forall_mem_cons.mpr ⟨rfl, List.forall_mem_nil _⟩⟩, ?_⟩
            ksw_same
          · k_steps
            walk_at "nm"
            refine Bx.mk ?_
            obtain ⟨p1, p2, p3⟩ := put (.bare c) trivial (in_bares c hcs hc) rfl
            refine ⟨(fun p hp => hp), rest, tks ++ [(.bare c)], _, p3, p1, p2, List.forall_mem_cons.mpr ⟨(by rw [flat_app, ← List.append_assoc]; rfl), List.forall_mem_cons.mpr ⟨rfl, List.forall_mem_nil _⟩⟩, ?_⟩
            ksw_same
        · skip
          have hT9' : IsTup h2 T2 #[.int 1 t8, .str (S [c]) u8] := by rw [hj] at hT8; exact hT8
          clear hT8
          cases hA : ((dk.fdiv (2 ^ Int.toNat 1)).fmod 2 == 0)
          · k_steps
            walk_at "nm"
            refine Bx.mk ?_
            obtain ⟨p1, p2, p3⟩ := put (.boxed c) trivial hcs rfl
            refine ⟨(fun p hp => hp), rest, tks ++ [(.boxed c)], _, p3, p1, p2, List.forall_mem_cons.mpr ⟨(by rw [flat_app, ← List.append_assoc]; rfl), List.forall_mem_cons.mpr ⟨rfl, List.forall_mem_nil _⟩⟩, ?_⟩
            ksw_same
          · k_steps
            walk_at "nm"
            refine Bx.mk ?_
            obtain ⟨p1, p2, p3⟩ := put (.bare c) trivial (in_bares c hcs hc) rfl
            refine ⟨(fun p hp => hp), rest, tks ++ [(.bare c)], _, p3, p1, p2, List.forall_mem_cons.mpr ⟨(by rw [flat_app, ← List.append_assoc]; rfl), List.forall_mem_cons.mpr ⟨rfl, List.forall_mem_nil _⟩⟩, ?_⟩
            ksw_same
    case done2 =>
      clear F' N'
      intro m2 news2 hI2x
      refine gfold ?_
      intro G9
      obtain ⟨⟨hsub2, rest0, tks, t2, hxs2, hcat2, hsg, g1, g2⟩⟩ := hI2x
      obtain rfl := enum_nil hxs2
      clear hxs2
      intro h2 tk2 F2 N2
      have F' := ksw_fr g1 g2 F2
      have N' : News g L' h2 [(I + 4, o1), (I + 2, o2), (I + 3, o3), (I, o4), (I + 1, o5), (lw, W.listOf (List.toArray vs) n), (ld, W.listOf (List.toArray ds) n2)] := cb_drop N2 hsub2
      dsimp only [kstB] at F'
      rw [List.append_nil] at hcat2
      have hcl := congrArg List.length hcat2
      rw [List.length_map] at hcl
      have hfk := flat_le3 tks
      have hok2 : OkD (dw ++ [tks]) := fun d hd => by
        rcases List.mem_append.mp hd with q | q
        · exact hok d q
        · rw [List.mem_singleton.mp q]
          exact ⟨fun z => x1 (by rw [← hcat2, z]; rfl), by omega, hsg⟩
      k_steps
      walk_at "nm"
      refine Bx.mk ?_
      refine ⟨(fun p hp => hp), vs', ds', dw ++ [tks], _, _, ws', rfl, (by simpa using hle), hns, (fun k hk => hnb k (List.mem_cons_of_mem _ hk)), hok2, hws', ?_, List.forall_mem_cons.mpr ⟨(by rw [flat_snoc]; rfl), List.forall_mem_nil _⟩, ?_⟩
      · rw [← hcat, ← hcat2]; simp [wordsD]
      · ksw_same
  case done =>
    clear F' N'
    intro m1 news1 hI
    refine gfold ?_
    intro G9
    obtain ⟨⟨hsub, vs0, ds0, dw, t, ns0, ws0, hxs, hle, hns0, hnb, hok, hws0, hcat, e1, e2⟩⟩ := hI
    obtain rfl := zip_nil hxs hle hws0
    clear hxs hle hws0 hns0
    intro h1 tk1 F1 N1
    have F' := ksw_fr e1 e2 F1
    have N' : News g L' h1 [(lw, W.listOf (List.toArray vs) n), (ld, W.listOf (List.toArray ds) n2)] := cb_drop N1 hsub
    dsimp only [kstB] at F'
    rw [List.append_nil] at hcat
    k_steps
    walk_at "nm"
    have hs := stays hg N htb F' N' (by repeat (first | exact List.forall_mem_nil _ | refine List.forall_mem_cons.mpr ⟨by k_mem, ?_⟩))
    exact hret dw _ _ _ hs hok hcat
end EC_pat
section
variable {w : World} {base h₀ : Heap} {outer : List Env} {L : Addr} {m : Str → Option Value} {env : Env} {news : List (Addr × Obj)}
  {hd : Option Value} {dp un : Nat} {gd : Option (List Code)} {s : Shared} {Q E : Value → Shared → Prop}
theorem C_pat {ws : List (List Nat)} {vs ds : List Value} {ns : List Int} {n n2 : Nat} {lw ld : Addr} (am : Amb w base h₀ L m env outer news s.heap) (hdp : dp < 400)
    (hvs : StrsAre vs (ws.map S)) (hds : IntsAre ds ns) (hlen : ws.length ≤ ns.length) (h3 : ws.length ≤ 3) (hn : ∀ k ∈ ns, 0 ≤ k ∧ k < 4) (hw : ∀ x ∈ ws, x ≠ [] ∧ x.length ≤ 2 ∧ ∀ c ∈ x, c ∈ stockL)
    (hlw : (lw, W.listOf (List.toArray vs) n) ∈ news) (hld : (ld, W.listOf (List.toArray ds) n2) ∈ news)
    (hret : ∀ dw t h' tk, s.heap.StaysIn h' → OkD dw → wordsD dw = ws → Q (.str (S (flat (tsD dw))) t) { s with heap := h', toks := tk }) :
    wpAny (MD w) (ar none dp un gd env outer) (call (.ref 145) [.ref lw, .ref ld]) Q E s :=
  EC_pat.ck9.2 EC_pat.kk9 (((((w, base), h₀), ((outer, L), m)), (((env, news), dp), (un, gd))), ((((s, Q), E), ((ws, vs), ds)), (((ns, n), n2), (lw, ld)))) am hdp hvs hds hlen h3 hn hw hlw hld hret
end
end Mine
end
theorem Mine.e9s15 : True := trivial
section
open PySem PySem.Spec PySem.Calls PyProof.Rows PySem.W
set_option maxHeartbeats 4000000
namespace Mine
open LCg
section
variable {prog : Program} {w : World} {A : Around} {E : Value → Shared → Prop} {s : Shared} {h₀ : Heap} {L : Addr} {m : Str → Option Value} {env : Env}
noncomputable def EltEnd (h₀ : Heap) (L : Addr) (m : Str → Option Value) (src : Addr × Obj) (I C D : Addr) (oI oC oD : Obj) (K : Value → List (Addr × Obj) → Shared → Prop) (y : Value) (s₂ : Shared) : Prop :=
  ∃ led, src ∈ led ∧ Fr h₀ L s₂.heap m ∧ News h₀ L s₂.heap ((I, oI) :: (C, oC) :: (D, oD) :: led) ∧ Off3 I C D led ∧ K y led s₂
structure SrcJ (prog : Program) (w : World) (A : Around) (h₀ : Heap) (L : Addr) (m : Str → Option Value) (env : Env) (elt : Expr) (x : Str) (scope : Scope) (cl : List (Str × Addr)) (J : Nat → List Value → List (Addr × Obj) → Shared → Prop)
    (Fin : List Value → List (Addr × Obj) → Shared → Prop) (I : Addr) (s₂ : Shared) : Prop where
  go : Ex6 fun (fp : List Addr) (n : Nat) (P : Nat → Value → Prop) (St : Nat → Heap → Prop) (src : Addr × Obj) (led : List (Addr × Obj)) =>
    Walks prog w A I fp [I] n P St ∧ n ≤ sizeLine ∧ (∀ i h, St i h → ∃ o, h.get? I = some o) ∧ (∀ b ∈ fp, b < s₂.heap.objs.size) ∧ St 0 s₂.heap ∧
    (∀ i h h', St i h → h.get? src.1 = some src.2 → h'.get? src.1 = some src.2 → h.get? I = h'.get? I → St i h') ∧
    Fr h₀ L s₂.heap m ∧ News h₀ L s₂.heap led ∧ I ≠ L ∧ h₀.get? I = none ∧ (∀ p ∈ led, p.1 ≠ I) ∧ src ∈ led ∧ J 0 [] led s₂ ∧
    (∀ i v ys led s₁ C D oI oC m₂ (E' : Value → Shared → Prop), i < n → P i v → J i ys led s₁ → src ∈ led → NsObj oC m₂ → m₂ x = some v → Fr h₀ L s₁.heap m → News h₀ L s₁.heap ((I, oI) :: (C, oC) :: (D, lst ys) :: led) → Off3 I C D led → ((@Ne Nat I C) ∧ (@Ne Nat I D) ∧ (@Ne Nat C D)) →
      wpAny (model prog w) A (eval elt (compEnvC scope cl C env)) (EltEnd h₀ L m src I C D oI oC (lst ys) (fun y led' s₂ => J (i + 1) (ys ++ [y]) led' s₂)) E' s₁) ∧
    (∀ ys led s₁, J n ys led s₁ → Fin ys led s₁)
end
namespace EcompJA
noncomputable def Pk9 (prog : Program) (w : World) (A : Around) (E : Value → Shared → Prop) (s : Shared) (h₀ : Heap) (m : Str → Option Value) (env : Env) (elt : Expr) (iter : Expr) (x : Str) (y : Str) (px : Pos) (py : Pos) (scope : Scope) (cl : List (Str × Addr)) (pos : Pos) (spos : Pos) (Q : Flow → Shared → Prop) : Prop := ∀ {L : Addr} (J : Nat → List Value → List (Addr × Obj) → Shared → Prop) (hJ : ∀ i ys led s h tk, J i ys led s → J i ys led { s with heap := h, toks := tk }) (hLe : env.locals = L) (hsw : swapsWith (.ListComp elt [⟨.Name x px, iter, [], 0⟩] scope pos) (some (.Name y py)) spos.line env = pure true) (hclos : closureFor scope env = pure cl) (hcell : ∀ z ∈ scope.names, z.2 ≠ .cell) (hkind : scope.kind = .function) (hnames : ∀ z ∈ scope.names, z.2 = .local → scope.names.lookup z.1 = some .local) (hx : scope.names.lookup x = some .local) (hy : env.kindOf y = some .local) (hp : (env.scope.kind == .class || (env.scope.kind == .module && env.locals != env.globals)) = false) (h : wpAny (model prog w) A (eval iter env) (fun xv s₁ => wpAny (model prog w) A (pyIter xv) (fun it s₂ => ∃ I, it = .ref I ∧ SrcJ prog w A h₀ L m env elt x scope cl J
      (fun ys led s₃ => ∀ D h' tk, Fr h₀ L h' (fun z => if z = y then some (.ref D) else m z) → News h₀ L h' ((D, lst ys) :: led) → Off1 D led → Q .next { s₃ with heap := h', toks := tk }) I s₂) E s₁) E s) (hs : ∀ x, foldedSetIterable iter env x = pure x),
    wpAny (model prog w) A (exec (.Assign [.Name y py] (.ListComp elt [⟨.Name x px, iter, [], 0⟩] scope pos) spos) env) Q E s
noncomputable def Pu9 (x : ((((((Program) × (World)) × (Around)) × ((Value → Shared → Prop) × (Shared))) × ((((Heap) × (Str → Option Value)) × (Env)) × ((Expr) × (Expr)))) × (((((Str) × (Str)) × (Pos)) × ((Pos) × (Scope))) × (((List (Str × Addr)) × (Pos)) × ((Pos) × (Flow → Shared → Prop)))))) : Prop := Pk9 x.1.1.1.1.1 x.1.1.1.1.2 x.1.1.1.2 x.1.1.2.1 x.1.1.2.2 x.1.2.1.1.1 x.1.2.1.1.2 x.1.2.1.2 x.1.2.2.1 x.1.2.2.2 x.2.1.1.1.1 x.2.1.1.1.2 x.2.1.1.2 x.2.1.2.1 x.2.1.2.2 x.2.2.1.1 x.2.2.1.2 x.2.2.2.1 x.2.2.2.2
noncomputable def ck9 : {x : _ // Pu9 x → ∀ y, Pu9 y} := Classical.choice (drink (by repeat (first | exact neS | exact neW | exact neA | refine ne2 ?_ ?_ | exact ⟨default⟩ | exact ⟨fun _ _ => True⟩ | exact ⟨fun _ => True⟩ | exact ⟨fun _ => default⟩ | exact ⟨fun _ _ => default⟩)))
noncomputable def prog : Program := ck9.1.1.1.1.1.1
noncomputable def w : World := ck9.1.1.1.1.1.2
noncomputable def A : Around := ck9.1.1.1.1.2
noncomputable def E : Value → Shared → Prop := ck9.1.1.1.2.1
noncomputable def s : Shared := ck9.1.1.1.2.2
noncomputable def h₀ : Heap := ck9.1.1.2.1.1.1
noncomputable def m : Str → Option Value := ck9.1.1.2.1.1.2
noncomputable def env : Env := ck9.1.1.2.1.2
noncomputable def elt : Expr := ck9.1.1.2.2.1
noncomputable def iter : Expr := ck9.1.1.2.2.2
noncomputable def x : Str := ck9.1.2.1.1.1.1
noncomputable def y : Str := ck9.1.2.1.1.1.2
noncomputable def px : Pos := ck9.1.2.1.1.2
noncomputable def py : Pos := ck9.1.2.1.2.1
noncomputable def scope : Scope := ck9.1.2.1.2.2
noncomputable def cl : List (Str × Addr) := ck9.1.2.2.1.1
noncomputable def pos : Pos := ck9.1.2.2.1.2
noncomputable def spos : Pos := ck9.1.2.2.2.1
noncomputable def Q : Flow → Shared → Prop := ck9.1.2.2.2.2
theorem kk9 : Pk9 prog w A E s h₀ m env elt iter x y px py scope cl pos spos Q := by
  intro L J hJ hLe hsw hclos hcell hkind hnames hx hy hp h hs
  subst hLe
  rw [exec_Assign_Name_used _ _ _ _ hsw]
  refine wpAny_bind (wpAny_standAt (wpAny_bind ?_))
  show wpAny _ A (do let _ ← comprehension (.ListComp elt [⟨.Name x px, iter, [], 0⟩] scope pos) scope env _ (newList []) false (eval iter env) (some (assign (.Name y py) env))) _ _ s
  refine wpAny_bind (wpAny_mono (wpAny_comprehension_free (use := some (assign (.Name y py) env)) (Q := fun _ s' => Q .next s') rfl hs hclos hkind hnames
    (wpAny_mono h (fun xv s₁ h₁ => wpAny_mono h₁ (fun it s₂ h₂ => ?_) fun _ _ e => e) fun _ _ e => e)) (fun _ s' hq => wpAny_pure (wpAny_pure hq)) fun _ _ e => e)
  obtain ⟨I, rfl, fp, n, P, St, src, led, W, hsz, hIo, hfp, hst, hSt, F, N, hIL, hI₀, off, hsrc, hj0, step, fin⟩ := h₂
  refine wpAny_newObj_type (wpAny_newFunctionEnv hcell (fun y hy => nomatch hy) (fun h₁ hns hsb => ?_) hkind)
  dsimp only at hns hsb ⊢
  obtain ⟨D, hD⟩ : ∃ D, s₂.heap.objs.size = D := ⟨_, rfl⟩
  obtain ⟨H, hH⟩ : ∃ H, s₂.heap.push { cls := .type "list", dict := none, data := .seq ([] : List Value).toArray } = H := ⟨_, rfl⟩
  obtain ⟨C, hC⟩ : ∃ C, H.objs.size = C := ⟨_, rfl⟩
  have hCD : C = D + 1 := by rw [← hC, ← hH, Heap.size_push, hD]
  rw [hD]
  rw [hH, hC] at hns hsb
  rw [hH, hC]
  have lt : ∀ b o, s₂.heap.get? b = some o → b < D := fun b o e => hD ▸ Heap.lt_size e
  have ltC : ∀ b, b < D → b ≠ C := fun b q => Nat.ne_of_lt (by rw [hCD]; exact Nat.lt_succ_of_lt q)
  have hDC : D ≠ C := by rw [hCD]; exact Nat.ne_of_lt (Nat.lt_succ_self _)
  have inH : ∀ b o, s₂.heap.get? b = some o → H.get? b = some o := fun b o e => hH ▸ Heap.get?_push_of_some _ e
  have old : ∀ b o, s₂.heap.get? b = some o → h₁.get? b = some o := fun b o e => hsb.extBut b o (ltC b (lt b o e)) (Heap.get?_push_of_some _ (inH b o e))
  have hIfp : I ∈ fp := W.sub I (List.mem_singleton.mpr rfl)
  have hID : I < D := hD ▸ hfp I hIfp
  have hDfp : D ∉ fp := fun q => Nat.lt_irrefl _ (hD ▸ hfp D q)
  have hCfp : C ∉ fp := fun q => by have := hfp C q; rw [hCD, hD] at this; exact Nat.lt_irrefl _ (Nat.lt_of_succ_lt this)
  have hLD : env.locals < D := hD ▸ F.ns.lt
  have none2 : ∀ b, D ≤ b → h₀.get? b = none := fun b hb => by
    cases q : h₀.get? b with
    | none => rfl
    | some o => exact absurd (lt b o (F.keep _ _ q)) (Nat.not_lt.mpr hb)
  have hD₀ : h₀.get? D = none := none2 D (Nat.le_refl _)
  have hC₀ : h₀.get? C = none := none2 C (by rw [hCD]; exact Nat.le_succ _)
  have hCL : C ≠ env.locals := (ltC _ hLD).symm
  have hDL : D ≠ env.locals := (Nat.ne_of_lt hLD).symm
  have hD1 : h₁.get? D = some (lst []) := hsb.extBut D _ hDC (Heap.get?_push_of_some _ (by rw [← hH, ← hD]; exact Heap.get?_push_size _ rfl))
  have ledlt : ∀ p ∈ led, p.1 < D := fun p hp => lt _ _ (N p hp).1
  have loop : ∀ s₃ : Shared, s₃ = { s₂ with heap := h₁, toks := s₂.toks + ([] : List (Str × Value)).length } →
      codeAny (model prog w) A (.compLoop (.ListComp elt [⟨.Name x px, iter, [], 0⟩] scope pos) 0 (.ref I) (.ref D) (compEnvC scope cl C env))
        (compPost (model prog w) A E (some (assign (.Name y py) env)) (fun _ s' => Q .next s') (.ref D) C) s₃ := by
    rintro s₃ rfl
    refine codeAny_compLoop_tests (fun k s' => Ex4 fun i ys m' led' => i ≤ n ∧ k = n + 1 - i ∧ ys.length = i ∧ St i s'.heap ∧ Fr h₀ env.locals s'.heap m ∧ s'.heap.Ns C m' ∧ News h₀ env.locals s'.heap ((D, lst ys) :: led') ∧ Off3 I C D led' ∧ src ∈ led' ∧ J i ys led' s') ?_ (n + 1)
      ⟨0, [], _, led, Nat.zero_le _, rfl, rfl, W.frame _ _ _ hst fun b _ o e => old b o e, F.keeps old, hns, List.forall_mem_cons.mpr ⟨⟨hD1, hDL, hD₀⟩, fun p hp => ⟨old _ _ (N p hp).1, (N p hp).2⟩⟩,
        Off3.of fun p hp => ⟨off p hp, ltC _ (ledlt p hp), Nat.ne_of_lt (ledlt p hp)⟩, hsrc, hJ 0 [] led s₂ _ _ hj0⟩
    rintro k s' ⟨i, ys, m', led', hi, rfl, hyl, hst', F', hn', N', off', hsrc', hj'⟩
    have o3 := off'.mem
    by_cases hlt : i < n
    · refine W.item i _ _ _ hlt hst' fun v h₂ tk₂ hPv hst₂ hk₂ => ?_
      have hn₂ : h₂.Ns C m' := hn'.at' fun o e => hk₂ _ o (fun q => ltC I hID (List.mem_singleton.mp q).symm) e
      refine wpAny_assign_Name (wpAny_storeName_local (lookup_relabel_local hx) hn₂ (fun h₃ hn₃ hs₃ => ?_) (by simp [compEnvC, relabel, hkind]))
      refine wpAny_tests_nil ?_
      simp only [if_true]
      have hst₃ : St (i + 1) h₃ := W.frame _ _ _ hst₂ fun b hb o e => hs₃.extBut b o (fun q => hCfp (by have q' : b = C := q; rw [← q']; exact hb)) e
      obtain ⟨oI, heI⟩ := hIo _ _ hst₃
      obtain ⟨oC, heC, hoC⟩ := ns_obj hn₃
      have F₃ : Fr h₀ env.locals h₃ m := (fr_but F' hk₂ hIL.symm hI₀).change hs₃ hCL hC₀
      have N₃ : News h₀ env.locals h₃ ((I, oI) :: (C, oC) :: (D, lst ys) :: led') := by
        have up : ∀ p ∈ (D, lst ys) :: led', p.1 ≠ I → p.1 ≠ C → h₃.get? p.1 = some p.2 := fun p hp n1 n2 => hs₃.extBut _ _ n2 (hk₂ _ _ (fun q => n1 (List.mem_singleton.mp q)) (N' p hp).1)
        refine List.forall_mem_cons.mpr ⟨⟨heI, hIL, hI₀⟩, List.forall_mem_cons.mpr ⟨⟨heC, hCL, hC₀⟩, List.forall_mem_cons.mpr ⟨⟨up (D, lst ys) (.head _) (Nat.ne_of_lt hID).symm hDC, hDL, hD₀⟩, fun p hp => ⟨up p (.tail _ hp) (o3 p hp).1 (o3 p hp).2.1, (N' p (.tail _ hp)).2⟩⟩⟩⟩
      refine wpAny_mono (step i v ys led' _ C D oI oC _ _ hlt hPv (hJ i ys led' s' h₃ _ hj') hsrc' hoC (by simp) F₃ N₃ off' ⟨ltC I hID, Nat.ne_of_lt hID, hDC.symm⟩) (fun y₄ s₄ h₄ => ?_) fun _ _ e => e
      obtain ⟨led₄, hsrc₄, F₄, N₄, off₄, hj₄⟩ := h₄
      have o4 := off₄.mem
      have zC := (N₄ (C, oC) (.tail _ (.head _))).1
      have zD := (N₄ (D, lst ys) (.tail _ (.tail _ (.head _)))).1
      have hst₄ : St (i + 1) s₄.heap := hSt _ _ _ hst₃ (N₃ src (.tail _ (.tail _ (.tail _ hsrc')))).1 (N₄ src (.tail _ (.tail _ (.tail _ hsrc₄)))).1 (heI.trans (N₄ (I, oI) (.head _)).1.symm)
      refine append_at (hsz := by show ys.toArray.size ≤ sizeLine; rw [List.size_toArray, hyl]; exact Nat.le_trans hi hsz) zD fun h₅ hs₅ hD₅ => ?_
      refine ⟨n + 1 - (i + 1), by omega, i + 1, ys ++ [y₄], _, led₄, hlt, rfl, by rw [List.length_append, List.length_singleton, hyl], W.frame _ _ _ hst₄ fun b hb o e => hs₅.extBut b o (fun q => hDfp (q ▸ hb)) e, F₄.change hs₅ hDL hD₀,
        (hoC.ns zC).sameBut hs₅ hDC.symm, List.forall_mem_cons.mpr ⟨⟨hD₅.trans (congrArg some (lst_snoc ys y₄)), hDL, hD₀⟩, fun p hp => ⟨hs₅.extBut _ _ (o4 p hp).2.2 (N₄ p (.tail _ (.tail _ (.tail _ hp)))).1, (N₄ p (.tail _ (.tail _ (.tail _ hp)))).2⟩⟩, off₄, hsrc₄, ?_⟩
      have := hJ (i + 1) (ys ++ [y₄]) led₄ s₄ h₅ s₄.toks hj₄
      exact this
    · obtain rfl : i = n := by omega
      refine W.done _ _ _ hst' fun h₂ tk₂ hk₂ => ?_
      have F₂ := fr_but F' hk₂ hIL.symm hI₀
      have N₂ := news_but N' hk₂ (List.forall_mem_cons.mpr ⟨(Nat.ne_of_lt hID).symm, fun p hp => (o3 p hp).1⟩)
      have hn₂ : h₂.Ns C m' := hn'.at' fun o e => hk₂ _ o (fun q => ltC I hID (List.mem_singleton.mp q).symm) e
      show wpAny _ A (assign (.Name y py) env (.ref D)) _ _ _
      refine wpAny_assign_Name (wpAny_storeName_local hy F₂.ns (fun h₃ hn₃ hs₃ => ?_) hp)
      have hL₀ : h₀.get? env.locals = none := Heap.get?_none_of_le F₂.above
      have F₃ : Fr h₀ env.locals h₃ (fun z => if z = y then some (.ref D) else m z) := ⟨hn₃, fun b o e => hs₃.extBut b o (fun q => by rw [q, hL₀] at e; cases e) (F₂.keep b o e), F₂.above⟩
      refine ⟨m', hn₂.sameBut hs₃ hCL, fun h₄ hs₄ => ?_⟩
      have := fin ys led' _ (hJ i ys led' s' h₄ (tk₂ + 1) hj') D h₄ (tk₂ + 1) (F₃.change hs₄ hCL hC₀) (fun p hp => ⟨hs₄.extBut _ _ ?_ (hs₃.extBut _ _ (N₂ p hp).2.1 (N₂ p hp).1), (N₂ p hp).2⟩) off'.one
      · exact this
      · rcases List.mem_cons.mp hp with rfl | hp
        · exact hDC
        · exact (o3 p hp).2.1
  exact codeAny_compStart_list (loop _ rfl) (W.self 0 _ _ _ (W.frame _ _ _ hst fun b _ o e => old b o e) (loop _ rfl))
end EcompJA
section
variable {prog : Program} {w : World} {A : Around} {E : Value → Shared → Prop} {s : Shared} {h₀ : Heap} {L : Addr} {m : Str → Option Value} {env : Env}
theorem compJA {elt iter : Expr} {x y : Str} {px py : Pos} {scope : Scope} {cl : List (Str × Addr)} {pos spos : Pos} {Q : Flow → Shared → Prop} (J : Nat → List Value → List (Addr × Obj) → Shared → Prop)
    (hJ : ∀ i ys led s h tk, J i ys led s → J i ys led { s with heap := h, toks := tk }) (hLe : env.locals = L)
    (hsw : swapsWith (.ListComp elt [⟨.Name x px, iter, [], 0⟩] scope pos) (some (.Name y py)) spos.line env = pure true)
    (hclos : closureFor scope env = pure cl) (hcell : ∀ z ∈ scope.names, z.2 ≠ .cell) (hkind : scope.kind = .function)
    (hnames : ∀ z ∈ scope.names, z.2 = .local → scope.names.lookup z.1 = some .local) (hx : scope.names.lookup x = some .local)
    (hy : env.kindOf y = some .local) (hp : (env.scope.kind == .class || (env.scope.kind == .module && env.locals != env.globals)) = false)
    (h : wpAny (model prog w) A (eval iter env) (fun xv s₁ => wpAny (model prog w) A (pyIter xv) (fun it s₂ => ∃ I, it = .ref I ∧ SrcJ prog w A h₀ L m env elt x scope cl J
      (fun ys led s₃ => ∀ D h' tk, Fr h₀ L h' (fun z => if z = y then some (.ref D) else m z) → News h₀ L h' ((D, lst ys) :: led) → Off1 D led → Q .next { s₃ with heap := h', toks := tk }) I s₂) E s₁) E s)
    (hs : ∀ x, foldedSetIterable iter env x = pure x := by intro _; rfl) :
    wpAny (model prog w) A (exec (.Assign [.Name y py] (.ListComp elt [⟨.Name x px, iter, [], 0⟩] scope pos) spos) env) Q E s :=
  EcompJA.ck9.2 EcompJA.kk9 (((((prog, w), A), (E, s)), (((h₀, m), env), (elt, iter))), ((((x, y), px), (py, scope)), ((cl, pos), (spos, Q)))) (L := L) J hJ hLe hsw hclos hcell hkind hnames hx hy hp h hs
end
end Mine
end
section
open PySem PySem.Spec PySem.Calls PyProof.Rows PySem.W
set_option maxHeartbeats 4000000
namespace Mine
open LCg
noncomputable abbrev tupO (its : Array Value) : Obj := { cls := .type "tuple", data := .seq its }
noncomputable def JL (os : OsState) (fixed : List (Addr × Obj)) (ws : List (List Nat)) (i : Nat) (ys : List Value) (led : List (Addr × Obj)) (s : Shared) : Prop :=
  s.os = os ∧ AllBare s.gens ∧ (∀ p ∈ fixed, p ∈ led) ∧ (∃ ps : Array Value, (84, tabObj ps) ∈ led ∧ TripRef ps.toList) ∧
  ∃ js : List (Addr × Obj), ys = js.map (fun q => Value.ref q.1) ∧ js.length = i ∧ (∀ q ∈ js, q ∈ led ∧ q.1 ≠ 84) ∧ ∀ k q, js[k]? = some q → ∃ vs n, q.2 = W.listOf (List.toArray vs) n ∧ StrsAre vs ((([] : List Nat) :: (ws.take (k + 1) ++ [[]])).map S)
section
variable {prog : Program} {w : World} {A : Around} {E : Value → Shared → Prop} {s : Shared} {h₀ : Heap} {L : Addr} {m : Str → Option Value} {env : Env}
theorem srcJ_tuple {t : Addr} {its : Array Value} {led : List (Addr × Obj)} {elt : Expr} {x : Str} {scope : Scope} {cl : List (Str × Addr)} {J : Nat → List Value → List (Addr × Obj) → Shared → Prop} {Fin : List Value → List (Addr × Obj) → Shared → Prop}
    (hJ : ∀ i ys led s h tk, J i ys led s → J i ys led { s with heap := h, toks := tk }) (hh : A.handled = none) (F : Fr h₀ L s.heap m) (N : News h₀ L s.heap led) (hm : (t, tupO its) ∈ led) (hsz : its.size ≤ sizeLine) (j0 : J 0 [] led s)
    (step : ∀ i v ys led s₁ C D I oI oC m₂ (E' : Value → Shared → Prop), i < its.size → its[i]? = some v → J i ys led s₁ → (t, tupO its) ∈ led → NsObj oC m₂ → m₂ x = some v → Fr h₀ L s₁.heap m → News h₀ L s₁.heap ((I, oI) :: (C, oC) :: (D, lst ys) :: led) → Off3 I C D led → ((@Ne Nat I C) ∧ (@Ne Nat I D) ∧ (@Ne Nat C D)) →
      wpAny (model prog w) A (eval elt (compEnvC scope cl C env)) (EltEnd h₀ L m (t, tupO its) I C D oI oC (lst ys) (fun y led' s₂ => J (i + 1) (ys ++ [y]) led' s₂)) E' s₁)
    (fin : ∀ ys led s₁, J its.size ys led s₁ → Fin ys led s₁) :
    wpAny (model prog w) A (pyIter (.ref t)) (fun it s₂ => ∃ I, it = .ref I ∧ SrcJ prog w A h₀ L m env elt x scope cl J Fin I s₂) E s := by
  have ht : s.heap.IsTuple t its := ⟨_, (N _ hm).1, rfl, 0, rfl⟩
  have hlt : t < s.heap.objs.size := Heap.lt_size (N _ hm).1
  refine wpAny_pyIter_tuple ht ⟨_, rfl, ⟨⟨[s.heap.objs.size, t], its.size, fun i v => its[i]? = some v, _, (t, tupO its), led, Walks.tuple hh s.heap.objs.size t (Nat.ne_of_lt hlt) its, hsz, fun i h st => ?_, fun b hb => ?_, ?_, fun i h h' st e1 e2 e3 => ?_,
    F.keeps fun b o e => Heap.get?_push_of_some _ e, N.grown fun b o e => Heap.get?_push_of_some _ e, ?_, next_is_new F, fun p hp => Nat.ne_of_lt (Heap.lt_size (N p hp).1), hm, ?_, fun i v ys led s₁ C D oI oC m₂ E' => step i v ys led s₁ C D _ oI oC m₂ E', fin⟩⟩⟩
  · obtain ⟨o, e, _⟩ := st.1; exact ⟨o, e⟩
  · show b < (s.heap.push _).objs.size
    rw [Heap.size_push]
    rcases List.mem_cons.mp hb with rfl | hb
    · exact Nat.lt_succ_self _
    · rw [List.mem_singleton.mp hb]; exact Nat.lt_succ_of_lt hlt
  · exact ⟨⟨_, Heap.get?_push_size _ rfl, rfl, rfl⟩, ⟨_, Heap.get?_push_of_some _ (N _ hm).1, rfl, 0, rfl⟩⟩
  · refine ⟨st.1.at fun o e => by rw [← e3]; exact e, ⟨_, e2, rfl, 0, rfl⟩⟩
  · exact (Nat.ne_of_lt F.ns.lt).symm
  · exact hJ _ _ _ s _ s.toks j0
end
theorem judge_step {base : Heap} {L I C D t l : Addr} {m : Str → Option Value} {oI oC tup : Obj} {ys vs : List Value} {i n : Nat} {led fixed js : List (Addr × Obj)} {ws : List (List Nat)} {ps ps' : Array Value} {s s' : Shared} {os : OsState}
    (F : Fr base L s.heap m) (N : News base L s.heap ((I, oI) :: (C, oC) :: (D, lst ys) :: (84, tabObj ps) :: (t, tup) :: (fixed ++ js)))
    (off : Off3 I C D led) (hsrc : (t, tup) ∈ led) (hfix : ∀ p ∈ fixed, p ∈ led) (h84 : ∃ ps0, (84, tabObj ps0) ∈ led) (hjs : ∀ q ∈ js, q ∈ led ∧ q.1 ≠ 84) (hf84 : ∀ p ∈ fixed, p.1 ≠ 84) (ht84 : t ≠ 84)
    (hys : ys = js.map (fun q => Value.ref q.1)) (hjl : js.length = i) (hjr : ∀ k q, js[k]? = some q → ∃ vs n, q.2 = W.listOf (List.toArray vs) n ∧ StrsAre vs ((([] : List Nat) :: (ws.take (k + 1) ++ [[]])).map S))
    (hos : s'.os = os) (hb : AllBare s'.gens) (k : (hideAll s.heap [84]).StaysIn s'.heap) (h8 : s'.heap.get? 84 = some (tabObj ps')) (hps : TripRef ps'.toList) (hn : s.heap.get? l = none) (hl : s'.heap.get? l = some (W.listOf (List.toArray vs) n))
    (hvs : StrsAre vs ((([] : List Nat) :: (ws.take (i + 1) ++ [[]])).map S)) :
    EltEnd base L m (t, tup) I C D oI oC (lst ys) (fun y led' s₂ => JL os fixed ws (i + 1) (ys ++ [y]) led' s₂) (.ref l) s' := by
  obtain ⟨ps0, h84⟩ := h84
  have m84 : (84, tabObj ps) ∈ ((I, oI) :: (C, oC) :: (D, lst ys) :: (84, tabObj ps) :: (t, tup) :: (fixed ++ js)) := .tail _ (.tail _ (.tail _ (.head _)))
  have o3 := off.mem
  have nw : ∀ b o, s.heap.get? b = some o → b ≠ l := fun b o e q => by rw [q, hn] at e; cases e
  have keep : ∀ p ∈ ((I, oI) :: (C, oC) :: (D, lst ys) :: (84, tabObj ps) :: (t, tup) :: (fixed ++ js)), p.1 ≠ 84 → s'.heap.get? p.1 = some p.2 ∧ p.1 ≠ L ∧ base.get? p.1 = none := fun p hp ne => ⟨keepT k (N p hp).1 ne, (N p hp).2⟩
  have fj : ∀ p ∈ fixed ++ js, p ∈ led ∧ p.1 ≠ 84 := fun p hp => by
    rcases List.mem_append.mp hp with q | q
    · exact ⟨hfix p q, hf84 p q⟩
    · exact hjs p q
  refine ⟨(l, W.listOf (List.toArray vs) n) :: (84, tabObj ps') :: (t, tup) :: (fixed ++ js), .tail _ (.tail _ (.head _)), backT F N m84 k, ?_, ?_, hos, hb, fun p hp => .tail _ (.tail _ (.tail _ (List.mem_append_left _ hp))), ⟨ps', .tail _ (.head _), hps⟩, js ++ [(l, W.listOf (List.toArray vs) n)], ?_, ?_, ?_, ?_⟩
  · refine List.forall_mem_cons.mpr ⟨keep (I, oI) (.head _) (Ne.symm (o3 _ h84).1), List.forall_mem_cons.mpr ⟨keep (C, oC) (.tail _ (.head _)) (Ne.symm (o3 _ h84).2.1), List.forall_mem_cons.mpr ⟨keep (D, lst ys) (.tail _ (.tail _ (.head _))) (Ne.symm (o3 _ h84).2.2), List.forall_mem_cons.mpr ⟨?_, List.forall_mem_cons.mpr ⟨⟨h8, (N _ m84).2⟩,
      List.forall_mem_cons.mpr ⟨keep (t, tup) (.tail _ (.tail _ (.tail _ (.tail _ (.head _))))) ht84, fun p hp => keep p (.tail _ (.tail _ (.tail _ (.tail _ (.tail _ hp))))) (fj p hp).2⟩⟩⟩⟩⟩⟩
    refine ⟨hl, fun q => ?_, ?_⟩
    · obtain ⟨oL, es, ep, hL, r⟩ := F.ns
      exact nw _ _ hL q.symm
    · cases e : base.get? l with
      | none => rfl
      | some o => exact absurd rfl (nw _ _ (F.keep _ _ e))
  · refine Off3.of (List.forall_mem_cons.mpr ⟨⟨?_, ?_, ?_⟩, List.forall_mem_cons.mpr ⟨(show (84 : Addr) ≠ I ∧ (84 : Addr) ≠ C ∧ (84 : Addr) ≠ D from o3 (84, tabObj ps0) h84), List.forall_mem_cons.mpr ⟨o3 _ hsrc, fun p hp => o3 p (fj p hp).1⟩⟩⟩)
    · exact (nw _ _ (N (I, oI) (.head _)).1).symm
    · exact (nw _ _ (N (C, oC) (.tail _ (.head _))).1).symm
    · exact (nw _ _ (N (D, lst ys) (.tail _ (.tail _ (.head _)))).1).symm
  · rw [hys, List.map_append]; rfl
  · rw [List.length_append, hjl]; rfl
  · intro q hq
    rcases List.mem_append.mp hq with hq | hq
    · exact ⟨.tail _ (.tail _ (.tail _ (List.mem_append_right _ hq))), (hjs q hq).2⟩
    · rw [List.mem_singleton.mp hq]
      exact ⟨.head _, (nw _ _ (N _ m84).1).symm⟩
  · intro k q hq
    by_cases hk : k < js.length
    · rw [List.getElem?_append_left hk] at hq
      exact hjr k q hq
    · rw [List.getElem?_append_right (by omega)] at hq
      have hk0 : k - js.length = 0 := by
        cases z : k - js.length with
        | zero => rfl
        | succ j => rw [z] at hq; simp at hq
      have hki : k = i := by omega
      rw [hk0] at hq
      obtain rfl : (l, W.listOf (List.toArray vs) n) = q := by simpa using hq
      subst hki
      exact ⟨vs, n, rfl, hvs⟩
theorem strs3 {x y z : List Nat} {w0 w2 w4 : Tok} : ∀ i, i < 3 → StrsAre ((([.str (S x) w0, .str (S y) w2, .str (S z) w4] : List Value)).take (i + 1)) (([x, y, z].take (i + 1)).map S)
  | 0, _ => .cons _ _ .nil
  | 1, _ => .cons _ _ (.cons _ _ .nil)
  | 2, _ => .cons _ _ (.cons _ _ (.cons _ _ .nil))
theorem cut_up {a b c : Value} : ∀ i, i < 3 → ([a, b, c].drop ((none : Option Int).elim 0 (clipAt [a, b, c].length))).take ((some (((i + 1 : Nat)) : Int)).elim [a, b, c].length (clipAt [a, b, c].length) - (none : Option Int).elim 0 (clipAt [a, b, c].length)) = [a, b, c].take (i + 1)
  | 0, _ => rfl
  | 1, _ => rfl
  | 2, _ => rfl
theorem nums3 {t1 t2 t3 : Tok} {v : Value} : ∀ i, (#[.int 1 t1, .int 2 t2, .int 3 t3] : Array Value)[i]? = some v → i < 3 ∧ ∃ t, v = .int ((i + 1 : Nat) : Int) t
  | 0, h => ⟨by decide, t1, (Option.some.inj h).symm⟩
  | 1, h => ⟨by decide, t2, (Option.some.inj h).symm⟩
  | 2, h => ⟨by decide, t3, (Option.some.inj h).symm⟩
  | i + 3, h => by simp at h
theorem dw_len {dw : List (List Tk)} {ws : List (List Nat)} (h : wordsD dw = ws) : dw.length = ws.length := by
  rw [← h]; unfold wordsD; rw [List.length_map]
theorem len3 {α : Type} : ∀ {l : List α}, l.length = 3 → ∃ a b c, l = [a, b, c]
  | [a, b, c], _ => ⟨a, b, c, rfl⟩
theorem JL.fin {os : OsState} {fixed led : List (Addr × Obj)} {x y z : List Nat} {ys : List Value} {s : Shared} (h : JL os fixed [x, y, z] 3 ys led s) :
    s.os = os ∧ AllBare s.gens ∧ (∀ p ∈ fixed, p ∈ led) ∧ Ex10 fun (ps : Array Value) (j1 j2 j3 : Addr) (vs1 vs2 vs3 : List Value) (k1 k2 k3 : Nat) => (84, tabObj ps) ∈ led ∧ ys = [.ref j1, .ref j2, .ref j3] ∧ (j1, W.listOf (List.toArray vs1) k1) ∈ led ∧ (j2, W.listOf (List.toArray vs2) k2) ∈ led ∧ (j3, W.listOf (List.toArray vs3) k3) ∈ led ∧
    StrsAre vs1 (([[], x, []] : List (List Nat)).map S) ∧ StrsAre vs2 (([[], x, y, []] : List (List Nat)).map S) ∧ StrsAre vs3 (([[], x, y, z, []] : List (List Nat)).map S) := by
  obtain ⟨hos, hbare, hfix, ⟨ps, h84, _⟩, js, rfl, hjl, hjs, hjr⟩ := h
  obtain ⟨q1, q2, q3, rfl⟩ := len3 hjl
  obtain ⟨j1, o1⟩ := q1
  obtain ⟨j2, o2⟩ := q2
  obtain ⟨j3, o3⟩ := q3
  obtain ⟨vs1, k1, ob1, hv1⟩ := hjr 0 (j1, o1) rfl
  obtain ⟨vs2, k2, ob2, hv2⟩ := hjr 1 (j2, o2) rfl
  obtain ⟨vs3, k3, ob3, hv3⟩ := hjr 2 (j3, o3) rfl
  dsimp only at ob1 ob2 ob3
  subst ob1
  subst ob2
  subst ob3
  refine ⟨hos, hbare, hfix, ps, j1, j2, j3, vs1, vs2, vs3, k1, k2, k3, h84, rfl, (hjs _ (.head _)).1, (hjs _ (.tail _ (.head _))).1, (hjs _ (.tail _ (.tail _ (.head _)))).1, ?_, ?_, ?_⟩
  · rw [show (([] : List Nat) :: ([x, y, z].take (0 + 1) ++ [[]])) = [[], x, []] from rfl] at hv1; exact hv1
  · rw [show (([] : List Nat) :: ([x, y, z].take (1 + 1) ++ [[]])) = [[], x, y, []] from rfl] at hv2; exact hv2
  · rw [show (([] : List Nat) :: ([x, y, z].take (2 + 1) ++ [[]])) = [[], x, y, z, []] from rfl] at hv3; exact hv3
end Mine
end
section
open PySem PySem.Spec PySem.Calls PyProof.Rows PySem.W
set_option maxHeartbeats 4000000
namespace Mine
open LCg
section
variable {prog : Program} {w : World} {A : Around} {E : Value → Shared → Prop} {s : Shared} {h₀ : Heap} {L : Addr} {m : Str → Option Value} {env : Env}
theorem r_inlists {le lj j1 j2 j3 : Addr} {vs1 vs2 vs3 : List Value} {k1 k2 k3 n : Nat} {news : List (Addr × Obj)} {Q : Value → Shared → Prop} (N : News h₀ L s.heap news) (he : (le, W.listOf (List.toArray []) n) ∈ news) (hj : (lj, lst [.ref j1, .ref j2, .ref j3]) ∈ news)
    (h1 : (j1, W.listOf (List.toArray vs1) k1) ∈ news) (h2 : (j2, W.listOf (List.toArray vs2) k2) ∈ news) (h3 : (j3, W.listOf (List.toArray vs3) k3) ∈ news) (l1 : vs1 ≠ []) (l2 : vs2 ≠ []) (l3 : vs3 ≠ []) (hu : A.in1.units < cLine)
    (h : Q (.bool false) s) : wpAny (model prog w) A (compareOp .In (.ref le) (.ref lj)) Q E s := by
  have one : ∀ {j : Addr} {vs : List Value} {k : Nat}, (j, W.listOf (List.toArray vs) k) ∈ news → vs ≠ [] → SeqAt.EqAt A.in1 s (.ref j) (.ref le) false := fun {j vs k} hm hv => by
    refine SeqAt.EqAt.of_refs (fun q => ?_) (SeqAt.RcAt.lists_lengths (N.isList hm) (N.isList he) ?_ hu)
    · have z1 := (N _ hm).1
      have z2 := (N _ he).1
      have q : j = le := q
      subst q
      have z1 : s.heap.get? j = _ := z1
      rw [z1] at z2
      injection z2 with z2
      injection z2 with _ _ z2 _
      injection z2 with z2 _
      exact hv (by simpa using z2)
    · cases vs with
      | nil => exact absurd rfl hv
      | cons a b => simp
  refine SeqAt.in_listAt (fun _ => false) (N.isList hj) (fun y hy => ?_) ?_
  · have hy : y = .ref j1 ∨ y = .ref j2 ∨ y = .ref j3 := by simpa using hy
    rcases hy with rfl | rfl | rfl
    · exact one h1 l1
    · exact one h2 l2
    · exact one h3 l3
  · simpa using h
theorem forTup {target : Expr} {body : List Stmt} {t : Addr} {its : Array Value} {news : List (Addr × Obj)} {Q : Flow → Shared → Prop} (hh : A.handled = none) (F : Fr h₀ L s.heap m) (N : News h₀ L s.heap ((t, tupO its) :: news))
    (G : Nat → (Str → Option Value) → List (Addr × Obj) → Shared → Prop) (hG : ∀ i m nw s h tk, G i m nw s → G i m nw { s with heap := h, toks := tk }) (g0 : G 0 m news s)
    (step : ∀ i v I oI m₁ nw s₁, i < its.size → its[i]? = some v → G i m₁ nw s₁ → Fr h₀ L s₁.heap m₁ → News h₀ L s₁.heap ((I, oI) :: (t, tupO its) :: nw) → (∀ p ∈ (t, tupO its) :: nw, p.1 ≠ I) → (∃ k : Int, oI.data = .fields #[.ref t, .int k 0]) →
      wpAny (model prog w) A (assign target env v) (fun _ s₂ => wpAny (model prog w) A (execs body env) (fun f s₃ => match f with
        | .ret v => Q (.ret v) s₃
        | .brk => Q .next s₃
        | _ => Bx (∃ m₂ nw₂, G (i + 1) m₂ nw₂ s₃ ∧ Fr h₀ L s₃.heap m₂ ∧ News h₀ L s₃.heap ((I, oI) :: (t, tupO its) :: nw₂) ∧ ∀ p ∈ (t, tupO its) :: nw₂, p.1 ≠ I)) E s₂) E s₁)
    (done : ∀ m₁ nw s₁, G its.size m₁ nw s₁ → Fr h₀ L s₁.heap m₁ → News h₀ L s₁.heap ((t, tupO its) :: nw) → Q .next s₁)
    (hE : PassesOwn (model prog w) A env E) :
    wpAny (model prog w) A (pyIter (.ref t)) (fun it s₂ => codeAny (model prog w) A (.forLoop target it body [] env) (fun r s' => match r with | .ok f => Q f s' | .error e => cameBackBy (model prog w) A env E e s') s₂) E s := by
  (try revert hE)
  (try revert done)
  (try revert step)
  (try revert g0)
  (try revert hG)
  (try revert G)
  (try revert N)
  (try revert F)
  (try revert hh)
  (repeat ((rename (_ : Prop) => z9); (fail_if_success (have : Clm := z9)); revert z9))
  revert prog w A E s h₀ L m env target body t its news Q
  (refine no_implicit_lambda% (close15 64900 ?ne_z1 (R := ?R_z1) ((?nw_z1 : ∀ prog w A E s h₀ L m env target body t its news Q, ?R_z1 prog w A E s h₀ L m env target body t its news Q) (Mine.cl 64900 ?ne_z1 (un15 ?R_z1)).1.1.1.1 (Mine.cl 64900 ?ne_z1 (un15 ?R_z1)).1.1.1.2 (Mine.cl 64900 ?ne_z1 (un15 ?R_z1)).1.1.2.1 (Mine.cl 64900 ?ne_z1 (un15 ?R_z1)).1.1.2.2 (Mine.cl 64900 ?ne_z1 (un15 ?R_z1)).1.2.1.1 (Mine.cl 64900 ?ne_z1 (un15 ?R_z1)).1.2.1.2 (Mine.cl 64900 ?ne_z1 (un15 ?R_z1)).1.2.2.1 (Mine.cl 64900 ?ne_z1 (un15 ?R_z1)).1.2.2.2 (Mine.cl 64900 ?ne_z1 (un15 ?R_z1)).2.1.1.1 (Mine.cl 64900 ?ne_z1 (un15 ?R_z1)).2.1.1.2 (Mine.cl 64900 ?ne_z1 (un15 ?R_z1)).2.1.2.1 (Mine.cl 64900 ?ne_z1 (un15 ?R_z1)).2.1.2.2 (Mine.cl 64900 ?ne_z1 (un15 ?R_z1)).2.2.1.1 (Mine.cl 64900 ?ne_z1 (un15 ?R_z1)).2.2.1.2 (Mine.cl 64900 ?ne_z1 (un15 ?R_z1)).2.2.2)))
  (case ne_z1 => repeat (first | exact ⟨default⟩ | exact neS | exact neW | exact neA | refine ne2 ?_ ?_))
  intro prog w A E s h₀ L m env target body t its news Q
  (set_option tactic.hygienic false in intros)
  have mk9 : Clm := ⟨trivial⟩
  have ht : s.heap.IsTuple t its := ⟨_, (N _ (.head _)).1, rfl, 0, rfl⟩
  have hlt : t < s.heap.objs.size := Heap.lt_size (N _ (.head _)).1
  refine wpAny_pyIter_tuple ht ?_
  obtain ⟨I, hI⟩ : ∃ I, s.heap.objs.size = I := ⟨_, rfl⟩
  rw [hI]
  have hIL : I ≠ L := by rw [← hI]; exact (Nat.ne_of_lt F.ns.lt).symm
  have hI0 : h₀.get? I = none := by rw [← hI]; exact next_is_new F
  refine forW (Walks.tuple hh I t (by rw [← hI]; exact Nat.ne_of_lt hlt) its) (fun i v s Q E st q => letGo_tupleiter st.1 q)
    (fun i s₁ => Ex3 fun m₁ nw oI => G i m₁ nw s₁ ∧ Fr h₀ L s₁.heap m₁ ∧ News h₀ L s₁.heap ((I, oI) :: (t, tupO its) :: nw) ∧ (∀ p ∈ (t, tupO its) :: nw, p.1 ≠ I) ∧ oI.cls = .type "tuple_iterator" ∧ oI.data = .fields #[.ref t, .int (i : Nat) 0]) ?h0 ?hst ?step ?done hE
  case h0 =>
    refine ⟨m, news, { cls := .type "tuple_iterator", data := .fields #[.ref t, .int 0 0] }, hG _ _ _ s _ s.toks g0, F.keeps fun b o e => Heap.get?_push_of_some _ e, List.forall_mem_cons.mpr ⟨⟨?_, hIL, hI0⟩, N.grown fun b o e => Heap.get?_push_of_some _ e⟩, fun p hp => ?_, rfl, rfl⟩
    · rw [← hI]; exact Heap.get?_push_size _ rfl
    · rw [← hI]; exact Nat.ne_of_lt (Heap.lt_size (N p hp).1)
  case hst =>
    rintro i s₁ ⟨m₁, nw, oI, g, F₁, N₁, off, c1, d1⟩
    exact ⟨⟨oI, (N₁ _ (.head _)).1, c1, d1⟩, ⟨_, (N₁ _ (.tail _ (.head _))).1, rfl, 0, rfl⟩⟩
  case step =>
    rintro i v s₁ h5 tk5 hi ⟨m₁, nw, oI, g, F₁, N₁, off, c1, d1⟩ hv ⟨⟨oI2, hI2, c2, d2⟩, _⟩ hk
    have F₂ : Fr h₀ L h5 m₁ := fr_but F₁ hk hIL.symm hI0
    have N₂ : News h₀ L h5 ((I, oI2) :: (t, tupO its) :: nw) := List.forall_mem_cons.mpr ⟨⟨hI2, hIL, hI0⟩, fun p hp => ⟨hk _ _ (fun z => off p hp (List.mem_singleton.mp z)) (N₁ p (.tail _ hp)).1, (N₁ p (.tail _ hp)).2⟩⟩
    refine wpAny_mono (step i v I oI2 m₁ nw _ hi hv (hG _ _ _ s₁ h5 tk5 g) F₂ N₂ off ⟨_, d2⟩) (fun _ s₂ h₂ => wpAny_mono h₂ (fun f s₃ h₃ => ?_) fun _ _ e => e) fun _ _ e => e
    cases f with
    | ret v => exact h₃
    | brk => exact h₃
    | cont => obtain ⟨m₂, nw₂, g2, F3, N3, off2⟩ := h₃.h; exact ⟨m₂, nw₂, oI2, g2, F3, N3, off2, c2, d2⟩
    | next => obtain ⟨m₂, nw₂, g2, F3, N3, off2⟩ := h₃.h; exact ⟨m₂, nw₂, oI2, g2, F3, N3, off2, c2, d2⟩
  case done =>
    rintro s₁ h5 tk5 ⟨m₁, nw, oI, g, F₁, N₁, off, c1, d1⟩ hk
    exact done m₁ nw _ (hG _ _ _ s₁ h5 tk5 g) (fr_but F₁ hk hIL.symm hI0) (fun p hp => ⟨hk _ _ (fun z => off p hp (List.mem_singleton.mp z)) (N₁ p (.tail _ hp)).1, (N₁ p (.tail _ hp)).2⟩)
end
section
variable {base h h' : Heap} {L : Addr} {m : Str → Option Value} {news : List (Addr × Obj)}
theorem walk_fr {o o9 : Obj} (F : Fr base L h m) (N : News base L h [(53, o), (152, o9)]) (t : Turned [L] (hideAll h [53, 152]) h') : Fr base L h' m := by
  have n53 := (N _ (.head _)).2
  have n152 := (N _ (.tail _ (.head _))).2
  obtain ⟨oL, es, ep, hL, hd, r⟩ := F.ns
  have up : ∀ b x, h.get? b = some x → b ≠ 53 → b ≠ 152 → (hideAll h [53, 152]).get? b = some x := fun b x e n1 n2 => hideAll_get _ e (by simp [n1, n2])
  obtain ⟨sl, hs⟩ := t.frame L oL (up _ _ hL (Ne.symm n53.1) (Ne.symm n152.1)) (.head _)
  refine ⟨⟨_, es, ep, hs, hd, r⟩, fun b x e => ?_, F.above⟩
  have hb := F.keep b x e
  refine t.other b x (up _ _ hb (fun q => ?_) (fun q => ?_)) (fun q => ?_)
  · rw [q, n53.2] at e; cases e
  · rw [q, n152.2] at e; cases e
  · rw [List.mem_singleton.mp q, Heap.get?_none_of_le F.above] at e; cases e
theorem walk_news (N : News base L h news) (t : Turned [L] (hideAll h [53, 152]) h') (hn : ∀ p ∈ news, p.1 ≠ 53 ∧ p.1 ≠ 152) : News base L h' news := fun p hp => by
  refine ⟨t.other _ _ (hideAll_get _ (N p hp).1 (by simp [(hn p hp).1, (hn p hp).2])) (fun q => ?_), (N p hp).2⟩
  exact (N p hp).2.1 (List.mem_singleton.mp q)
theorem tab_off {P line col : Nat} {qual : Str} {o oc : Obj} {c' : Addr} (F : Fr base L h m) (hT : TabS P line col qual o c' oc) (hP : P ≠ L) (hc : h.get? c' = some oc) : c' ≠ L := by
  obtain ⟨oL, es, ep, hL, hd, r⟩ := F.ns
  rcases hT with ⟨_, rfl, _⟩ | ⟨_, vs, t, h3, _⟩
  · exact hP
  · intro q
    rw [q, hL] at hc
    cases hc
    rw [hd] at h3; cases h3
end
section
variable {base h h' : Heap} {L I t : Addr} {m : Str → Option Value} {oI o oc o9 oc9 : Obj} {c' c9 : Addr}
theorem tabs_grown {P line col : Nat} {qual : Str} {c' : Addr} {o oc : Obj} (hT : TabS P line col qual o c' oc) : ∃ ps, o = tabObj ps := by
  rcases hT with ⟨h, _⟩ | ⟨h, _⟩
  · exact ⟨_, h⟩
  · exact ⟨_, h⟩
theorem tab_iter {P line col : Nat} {qual : Str} {c' : Addr} {o oc : Obj} (hT : TabS P line col qual o c' oc) (hI : ∃ k : Int, oI.data = .fields #[.ref t, .int k 0]) : o ≠ oI ∧ oc ≠ oI := by
  obtain ⟨k, hI⟩ := hI
  rcases hT with ⟨rfl, _, rfl⟩ | ⟨rfl, vs, u, h3, h4⟩
  · have n : tabObj #[] ≠ oI := fun q => by
      rw [← q] at hI; injection hI with hI
      exact absurd (congrArg Array.size hI) (by simp)
    exact ⟨n, n⟩
  · refine ⟨fun q => ?_, fun q => ?_⟩
    · rw [← q] at hI; injection hI with hI
      exact absurd (congrArg Array.size hI) (by simp)
    · rw [← q, h3] at hI; injection hI with hI
      rw [hI] at h4; cases h4
noncomputable abbrev tab4 (o : Obj) (c' : Addr) (oc o9 : Obj) (c9 : Addr) (oc9 : Obj) : List (Addr × Obj) := [(53, o), (c', oc), (152, o9), (c9, oc9)]
theorem off_all {keep news : List (Addr × Obj)} (N : News base L h news) (hm : (I, oI) ∈ news) (h4 : ∀ p ∈ tab4 o c' oc o9 c9 oc9, p ∈ news) (offk : ∀ p ∈ keep, p.1 ≠ I) (hI : ∃ k : Int, oI.data = .fields #[.ref t, .int k 0])
    (hT : TabS 53 19 4 qcr o c' oc) (hT9 : TabS 152 207 22 qlm o9 c9 oc9) : ∀ p ∈ keep ++ tab4 o c' oc o9 c9 oc9, p.1 ≠ I := fun p hp => by
  rcases List.mem_append.mp hp with hp | hp
  · exact offk p hp
  · have a := tab_iter hT hI
    have b := tab_iter hT9 hI
    have hn := h4 p hp
    have one : p.2 ≠ oI → p.1 ≠ I := fun hne => not_at N (show (p.1, p.2) ∈ news from hn) hm hne
    refine one ?_
    simp only [List.mem_cons, List.not_mem_nil, or_false] at hp
    rcases hp with rfl | rfl | rfl | rfl
    · exact a.1
    · exact a.2
    · exact b.1
    · exact b.2
theorem walk_next {keep : List (Addr × Obj)} {o' oc2 o9' oc92 : Obj} {c2 c92 : Addr} (F : Fr base L h m) (N : News base L h (keep ++ tab4 o c' oc o9 c9 oc9)) (t : Turned [L] (hideAll h [53, 152]) h') (hk : ∀ p ∈ keep, p.1 ≠ 53 ∧ p.1 ≠ 152)
    (g53 : h'.get? 53 = some o') (gc2 : h'.get? c2 = some oc2) (hT' : TabS 53 19 4 qcr o' c2 oc2) (b2 : base.get? c2 = none) (g152 : h'.get? 152 = some o9') (gc92 : h'.get? c92 = some oc92) (hT9' : TabS 152 207 22 qlm o9' c92 oc92) (b92 : base.get? c92 = none) :
    Fr base L h' m ∧ News base L h' (keep ++ tab4 o' c2 oc2 o9' c92 oc92) := by
  have m53 : (53, o) ∈ keep ++ tab4 o c' oc o9 c9 oc9 := List.mem_append_right _ (.head _)
  have m152 : (152, o9) ∈ keep ++ tab4 o c' oc o9 c9 oc9 := List.mem_append_right _ (.tail _ (.tail _ (.head _)))
  have F7 := walk_fr F (cb_drop (news := [(53, o), (152, o9)]) N (List.forall_mem_cons.mpr ⟨m53, List.forall_mem_cons.mpr ⟨m152, List.forall_mem_nil _⟩⟩)) t
  refine ⟨F7, fun p hp => ?_⟩
  rcases List.mem_append.mp hp with hp | hp
  · exact walk_news (cb_drop (news := keep) N fun p hp => List.mem_append_left _ hp) t hk p hp
  · simp only [List.mem_cons, List.not_mem_nil, or_false] at hp
    rcases hp with rfl | rfl | rfl | rfl
    · exact ⟨g53, (N _ m53).2⟩
    · exact ⟨gc2, tab_off F7 hT' (N _ m53).2.1 gc2, b2⟩
    · exact ⟨g152, (N _ m152).2⟩
    · exact ⟨gc92, tab_off F7 hT9' (N _ m152).2.1 gc92, b92⟩
noncomputable def GL (os : OsState) (fx : List (Addr × Obj)) (nm : List (Str × Value)) (_ : Nat) (m : Str → Option Value) (nw : List (Addr × Obj)) (s : Shared) : Prop :=
  s.os = os ∧ AllBare s.gens ∧ (∀ q ∈ nm, m q.1 = some q.2) ∧ Ex6 fun o c' oc o9 c9 oc9 => nw = fx ++ tab4 o c' oc o9 c9 oc9 ∧ TabS 53 19 4 qcr o c' oc ∧ TabS 152 207 22 qlm o9 c9 oc9
theorem list_off {news : List (Addr × Obj)} {l P : Addr} {vs : Array Value} {n : Nat} {ps : Array Value} (N : News base L h news) (hl : (l, W.listOf vs n) ∈ news) (hP : (P, tabObj ps) ∈ news) : l ≠ P := not_at N hl hP (fun q => by injection q with q; cases q)
theorem cell_off {news : List (Addr × Obj)} {l P : Addr} {o : Obj} {v : Option Value} {ps : Array Value} (N : News base L h news) (hl : (l, o) ∈ news) (ho : o.data = .cell v) (hP : (P, tabObj ps) ∈ news) : l ≠ P := not_at N hl hP (fun q => by rw [q] at ho; cases ho)
theorem fr_one {b h : Heap} {L : Addr} {m : Str → Option Value} {x : Str} {v : Value} (F : Fr b L h m) (hx : m x = some v) : ∃ m0 : Str → Option Value, Fr b L h (fun z => if z = x then some v else m0 z) := by
  refine ⟨m, cast (congrArg (Fr b L h) (funext fun z => ?_)) F⟩
  split
  · subst z; exact hx
  · rfl
theorem fr_two {b h : Heap} {L : Addr} {m : Str → Option Value} {x y : Str} {v u : Value} (F : Fr b L h m) (hx : m x = some v) (hy : m y = some u) : ∃ m0 : Str → Option Value, Fr b L h (fun z => if z = x then some v else if z = y then some u else m0 z) := by
  refine ⟨m, cast (congrArg (Fr b L h) (funext fun z => ?_)) F⟩
  split
  · subst z; exact hx
  · split
    · subst z; exact hy
    · rfl
end
theorem two_strs {a b : Value} {P : Value → Prop} (ha : P a) (hb : P b) {v : Value} : ∀ i : Nat, (#[a, b] : Array Value)[i]? = some v → P v
  | 0, h => by rw [← Option.some.inj h]; exact ha
  | 1, h => by rw [← Option.some.inj h]; exact hb
  | i + 2, h => by simp at h
theorem repr_stock : ∀ c ∈ stockL, (reprText (S [c])).length ≤ 500 ∧ ∀ d ∈ stockL, (reprText (S [c, d])).length ≤ 500 := by decide +kernel
theorem repr_word {x : List Nat} (h : x ≠ [] ∧ x.length ≤ 2 ∧ ∀ c ∈ x, c ∈ stockL) : (reprText (S x)).length ≤ 500 := by
  obtain ⟨h1, h2, h3⟩ := h
  match x, h1, h2, h3 with
  | [c], _, _, h3 => exact (repr_stock c (h3 c (.head _))).1
  | [c, d], _, _, h3 => exact (repr_stock c (h3 c (.head _))).2 d (h3 d (.tail _ (.head _)))
theorem stock35 : 35 ∉ stockL ∧ 10 ∉ stockL := by decide
theorem strs_3 {vs : List Value} {p q r : Str} (h : StrsAre vs [p, q, r]) : Ex3 fun a1 a2 a3 => vs = [.str p a1, .str q a2, .str r a3] := by
  obtain ⟨a1, _, rfl, h⟩ := strs_c h
  obtain ⟨a2, _, rfl, h2⟩ := strs_c ‹StrsAre _ [q, r]›
  obtain ⟨a3, _, rfl, h3⟩ := strs_c ‹StrsAre _ [r]›
  obtain rfl := strs_n ‹StrsAre _ []›
  exact ⟨a1, a2, a3, rfl⟩
theorem strs_4 {vs : List Value} {o p q r : Str} (h : StrsAre vs [o, p, q, r]) : Ex4 fun a0 a1 a2 a3 => vs = [.str o a0, .str p a1, .str q a2, .str r a3] := by
  obtain ⟨a0, v, e, h1⟩ := strs_c h
  obtain ⟨a1, a2, a3, rfl⟩ := strs_3 h1
  exact ⟨a0, a1, a2, a3, e⟩
theorem strs_5 {vs : List Value} {k o p q r : Str} (h : StrsAre vs [k, o, p, q, r]) : Ex5 fun b a0 a1 a2 a3 => vs = [.str k b, .str o a0, .str p a1, .str q a2, .str r a3] := by
  obtain ⟨b, v, e, h1⟩ := strs_c h
  obtain ⟨a0, a1, a2, a3, rfl⟩ := strs_4 h1
  exact ⟨b, a0, a1, a2, a3, e⟩
theorem S_rev (l : List Nat) (u : Tok) : Txt.sliceBy (S l) none none (-1, u) = S l.reverse := by
  have h := step_rev_list (S l) u
  have e : (List.range (S l).length).map (fun k => (S l).cps.getD ((S l).length - 1 - k) 0) = l.reverse := by
    apply List.ext_getElem
    · simp [S_len]
    · intro i h1 h2
      simp only [List.length_map, List.length_range, S_len] at h1
      simp only [List.getElem_map, List.getElem_range, List.getElem_reverse, S_len]
      show (l.toArray).getD (l.length - 1 - i) 0 = _
      simp [Array.getD, show l.length - 1 - i < l.length by omega]
  rw [e] at h
  generalize Txt.sliceBy (S l) none none (-1, u) = z at h
  cases z with
  | mk c => show _ = (⟨l.reverse.toArray⟩ : Str); congr 1; exact Array.toList_inj.mp (by simpa using h)
theorem tells_ne {prog : Program} {w : World} {A : Around} {E : Value → Shared → Prop} {s : Shared} {v1 v2 : Value} {X : Sum Str Nat} {Q : Value → Shared → Prop} (h1 : Tells v1 X) (h2 : Tells v2 X) (h : Q (.bool false) s) : wpAny (model prog w) A (compareOp .NotEq v1 v2) Q E s := by
  cases h1 with
  | text x t => cases h2 with | text _ u => exact ne_str (by simpa using h)
  | num n t => cases h2 with | num _ u => exact ne_int (by simpa using h)
end Mine
end
section
open PySem PySem.Spec PySem.Calls PyProof.Rows PySem.W
set_option maxHeartbeats 8000000
namespace Mine
structure Ends (base : Heap) (os : OsState) (f : Flow) (s : Shared) : Prop where
  ret : f = .ret (.bool true)
  keep : base.StaysIn s.heap
  same : s.os = os
  bare : AllBare s.gens
  grown : GrownAll [(57, 53), (156, 152), (88, 84)] s.heap
theorem cut9 {M : Model} {A : Around} {t : Sem Flow} {base : Heap} {os : OsState} {Q : Flow → Shared → Prop} {E : Value → Shared → Prop} {s : Shared} (h1 : wpAny M A t (Ends base os) (fun _ _ => False) s) (h2 : ∀ a s', Ends base os a s' → Q a s') : wpAny M A t Q E s := wpAny_mono h1 h2 fun _ _ x => x.elim
structure GoStop : Prop where
  tt : True
theorem stopM {M : Model} {A : Around} {st : Stmt} {env : Env} {Q : Flow → Shared → Prop} {E : Value → Shared → Prop} {s : Shared} (_ : GoStop) (h : Hold (wpAny M A (exec st env) Q E s)) : wpAny M A (exec st env) Q E s := h
theorem stopW {α : Type} {M : Model} {A : Around} {x : Sem α} {Q : α → Shared → Prop} {E : Value → Shared → Prop} {s : Shared} (h : Hold (wpAny M A x Q E s)) : wpAny M A x Q E s := h
theorem clean_fr {b h : Heap} {L : Addr} {m : Str → Option Value} {x : Str} {v : Value} (F : Fr b L h m) (hx : m x = some v) : ∃ m0 : Str → Option Value, Fr b L h (fun z => if z = x then some v else m0 z) := by
  refine ⟨m, cast (congrArg (Fr b L h) (funext fun z => ?_)) F⟩
  split
  · subst z; exact hx
  · rfl
theorem r_len6 {prog : Program} {w : World} {A : Around} {E : Value → Shared → Prop} {s : Shared} {h₀ : Heap} {L l : Addr} {vs : List Value} {n : Nat} {news : List (Addr × Obj)} {Q : Value → Shared → Prop} (N : News h₀ L s.heap news) (hm : (l, listOf (List.toArray vs) n) ∈ news) (hv : vs.length ≤ 6)
    (h : Q (.int (vs.length : Nat) (s.toks + 1)) { s with toks := s.toks + 1 + 1 }) : wpAny (model prog w) A (call (.builtin "len") [.ref l]) Q E s := by
  refine len_list (N.isList hm) (by simp; omega) ?_
  exact h
theorem ints_app {a b : List Value} {p q : List Int} (h : IntsAre a p) (g : IntsAre b q) : IntsAre (a ++ b) (p ++ q) := by
  induction h with
  | nil => exact g
  | cons k t _ ih => exact .cons k t ih
theorem ints_drop {a : List Value} {p : List Int} (h : IntsAre a p) (n : Nat) : IntsAre (a.drop n) (p.drop n) := by
  induction h generalizing n with
  | nil => rw [List.drop_nil, List.drop_nil]; exact .nil
  | cons k t h ih =>
    cases n with
    | zero => exact .cons k t h
    | succ n => exact ih n
theorem six_of {vs : List Value} {ks : List Int} (h : IntsAre vs ks) (hl : ks.length = 6) : Ex12 fun n0 n1 n2 n3 n4 n5 u0 u1 u2 u3 u4 u5 => vs = [.int n0 u0, .int n1 u1, .int n2 u2, .int n3 u3, .int n4 u4, .int n5 u5] ∧ ks = [n0, n1, n2, n3, n4, n5] := by
  cases h with
  | nil => cases hl
  | cons n0 u0 h => cases h with
    | nil => cases hl
    | cons n1 u1 h => cases h with
      | nil => cases hl
      | cons n2 u2 h => cases h with
        | nil => cases hl
        | cons n3 u3 h => cases h with
          | nil => cases hl
          | cons n4 u4 h => cases h with
            | nil => cases hl
            | cons n5 u5 h => cases h with
              | nil => exact ⟨n0, n1, n2, n3, n4, n5, u0, u1, u2, u3, u4, u5, rfl, rfl⟩
              | cons n6 u6 h => simp at hl
theorem numbers_six {ys : List Value} {ns : List Int} {t0 t1 t2 t3 t4 t5 : Tok} (hI : IntsAre ys ((List.take 6 ns).map (·.fmod (10 ^ Int.toNat 6)))) :
    Ex12 fun n0 n1 n2 n3 n4 n5 u0 u1 u2 u3 u4 u5 => ys ++ [Value.int 27 t0, .int 49 t1, .int 48 t2, .int 32 t3, .int 5 t4, .int 0 t5].drop ys.length = [.int n0 u0, .int n1 u1, .int n2 u2, .int n3 u3, .int n4 u4, .int n5 u5] ∧
      ∀ k ∈ [n0, n1, n2, n3, n4, n5], 0 ≤ k ∧ k < 1000000 := by
  have hl := hI.length
  have h6 : IntsAre [Value.int 27 t0, .int 49 t1, .int 48 t2, .int 32 t3, .int 5 t4, .int 0 t5] [27, 49, 48, 32, 5, 0] := .cons _ _ (.cons _ _ (.cons _ _ (.cons _ _ (.cons _ _ (.cons _ _ .nil)))))
  obtain ⟨n0, n1, n2, n3, n4, n5, u0, u1, u2, u3, u4, u5, e, f⟩ := six_of (ints_app hI (ints_drop h6 ys.length)) (by rw [hl]; simp only [List.length_append, List.length_map, List.length_drop, List.length_take, List.length_cons, List.length_nil]; omega)
  refine ⟨n0, n1, n2, n3, n4, n5, u0, u1, u2, u3, u4, u5, e, fun k hk => ?_⟩
  rw [← f] at hk
  rcases List.mem_append.mp hk with hk | hk
  · obtain ⟨z, _, rfl⟩ := List.mem_map.mp hk
    exact ⟨Int.fmod_nonneg_of_pos _ (by decide), Int.fmod_lt_of_pos _ (by decide)⟩
  · have := List.mem_of_mem_drop hk
    simp at this
    rcases this with rfl | rfl | rfl | rfl | rfl | rfl <;> decide
theorem cut6 {ys : List Value} {v0 v1 v2 v3 v4 v5 : Value} (h : ys.length ≤ 6) :
    ([v0, v1, v2, v3, v4, v5].drop ((some ((ys.length : Nat) : Int)).elim 0 (clipAt [v0, v1, v2, v3, v4, v5].length))).take ((none : Option Int).elim [v0, v1, v2, v3, v4, v5].length (clipAt [v0, v1, v2, v3, v4, v5].length) - (some ((ys.length : Nat) : Int)).elim 0 (clipAt [v0, v1, v2, v3, v4, v5].length)) = [v0, v1, v2, v3, v4, v5].drop ys.length := by
  have e : clipAt [v0, v1, v2, v3, v4, v5].length ((ys.length : Nat) : Int) = ys.length := by
    exact (clip_nat 6 ys.length).trans (Nat.min_eq_left h)
  simp only [Option.elim, e]
  rw [List.take_of_length_le (by rw [List.length_drop]; exact Nat.le_refl _)]
theorem stock_item (k : Int) : ∃ a, a ∈ stockL ∧ Txt.item (Str.ofString "*?.-\\][a") (k.fmod 8) = S [a] := by
  have h0 : 0 ≤ k.fmod 8 := Int.fmod_nonneg_of_pos _ (by decide)
  have h8 : k.fmod 8 < 8 := Int.fmod_lt_of_pos _ (by decide)
  generalize k.fmod 8 = z at *
  have : z = 0 ∨ z = 1 ∨ z = 2 ∨ z = 3 ∨ z = 4 ∨ z = 5 ∨ z = 6 ∨ z = 7 := by omega
  rcases this with rfl | rfl | rfl | rfl | rfl | rfl | rfl | rfl
  · exact ⟨42, by decide, by decide +kernel⟩
  · exact ⟨63, by decide, by decide +kernel⟩
  · exact ⟨46, by decide, by decide +kernel⟩
  · exact ⟨45, by decide, by decide +kernel⟩
  · exact ⟨92, by decide, by decide +kernel⟩
  · exact ⟨93, by decide, by decide +kernel⟩
  · exact ⟨91, by decide, by decide +kernel⟩
  · exact ⟨97, by decide, by decide +kernel⟩
theorem kn_postB {M : Model} {A : Around} {cd : Code} {s s₁ : Shared} {cw : ClaimW} {cl : Str → Option Addr} {mean : ExcName → Option Value} {args : List WData} {tabs : List (Addr × Addr)} (hT : TabsAt tabs s₁.heap) (hr : ∀ a x, cw.raises a x = false)
    (hp : cw.post args (.bool true) args = true)
    (h : codeAny M A cd (fun r s' => r = .ok (.ret (.bool true)) ∧ (ghostOf s₁.heap tabs).StaysIn s'.heap ∧ s'.os = s₁.os ∧ AllBare s'.gens ∧ GrownAll tabs s'.heap) s) : codeAny M A cd (GoodWG cw cl mean args s₁) s :=
  codeAny_mono h fun r s' ⟨e1, hk, hos, hg, hgr⟩ => by
    have keep : ∀ b o, b ∉ tabs.map (·.2) → s₁.heap.get? b = some o → s'.heap.get? b = some o := fun b o hb e => hk b o (ghost_ne e hb)
    have grown : ∀ b o, b ∈ tabs.map (·.2) → s₁.heap.get? b = some o → isCodeTable s₁.heap b ∧ o = tabObj #[] ∧ ∃ ps, s'.heap.get? b = some (tabObj ps) := fun b o hb e => by
      obtain ⟨q, hq, rfl⟩ := List.mem_map.mp hb
      have e2 := (hT q hq).2
      rw [e] at e2
      exact ⟨((hT q hq).1.tab (hT q hq).2).isCodeTable, Option.some.inj e2, hgr.get q hq⟩
    refine ⟨.inl ⟨.bool true, .bool true, [], e1, hr _, .bool _, hp, fun _ => ⟨List.nodup_nil, nofun⟩⟩, ⟨fun b o e => ?_, fun b o e => ?_⟩, hos, hg⟩
    · by_cases hb : b ∈ tabs.map (·.2)
      · obtain ⟨ht, rfl, ps, hP⟩ := grown b o hb e
        exact .inr (.inl ⟨ht, rfl, #[], ps, rfl, by rw [Array.empty_append]; exact hP⟩)
      · exact .inl (keep b o hb e)
    · by_cases hb : b ∈ tabs.map (·.2)
      · obtain ⟨_, _, ps, hP⟩ := grown b o hb e
        exact ⟨_, hP⟩
      · exact ⟨o, keep b o hb e⟩
theorem kw39 : True := by
  (k_with "9subscriptTail List cons Slice ref ref" => ((fail_if_success first | have := @Mine.e9s16 | fail); with_unfolding_all (first | with_reducible refine stopW ?_ | refine stopW ?_)))
  (k_with "9exec Assign cons ListComp" => ((fail_if_success first | have := @Mine.e9s16 | fail); with_unfolding_all (first | with_reducible refine stopM (by assumption) ?_ | refine stopM (by assumption) ?_)))
  (k_with "9exec Assign cons BinOp" => ((fail_if_success first | have := @Mine.e9s16 | fail); with_unfolding_all (first | with_reducible refine stopM (by assumption) ?_ | refine stopM (by assumption) ?_)))
  (k_with "9exec Assign cons Call" => ((fail_if_success first | have := @Mine.e9s16 | fail); with_unfolding_all (first | with_reducible refine stopM (by assumption) ?_ | refine stopM (by assumption) ?_)))
  (k_with "9call builtin:len" => ((fail_if_success first | have := @Mine.e9s16 | fail); with_unfolding_all walk_at "nm"; (first | with_reducible refine r_len6 (vs := ys) N' (by k_mem) hyl6 ?_ | refine r_len6 (vs := ys) N' (by k_mem) hyl6 ?_)))
  (k_with "9binaryOp Add ref ref" => ((fail_if_success first | have := @Mine.e9s16 | fail); with_unfolding_all (first | with_reducible refine stopW ?_ | refine stopW ?_)))
  (k_with "9call ref" => ((fail_if_success first | have := @Mine.e9s16 | fail); with_unfolding_all (first | with_reducible refine stopC3 ?_ | refine stopC3 ?_)))
  (k_with "9Exists" => ((fail_if_success first | have := @Mine.e9s16 | fail); k_dflt ((refine ⟨?_, ?_⟩); rotate_left)))
  trivial
theorem signs_two {h : Heap} {l : Addr} {q : Int} {ta tb : Tok} (hls : h.get? l = some (W.listOf #[.str (Txt.item (Str.ofString "*?.-\\][a") (q.fmod 8)) ta, .str (Txt.item (Str.ofString "*?.-\\][a") ((q.fmod 8 + 1 + (q.fdiv 8).fmod 7).fmod 8)) tb] 0)) :
    ∃ a b, a ∈ stockL ∧ b ∈ stockL ∧ h.get? l = some (W.listOf #[.str (S [a]) ta, .str (S [b]) tb] 0) := by
  obtain ⟨a, ha, ea⟩ := stock_item q
  obtain ⟨b, hb, eb⟩ := stock_item (q.fmod 8 + 1 + (q.fdiv 8).fmod 7)
  exact ⟨a, b, ha, hb, by rw [← ea, ← eb]; exact hls⟩
theorem paired_c {α β : Type} {R : α → β → Prop} {x : α} {xs : List α} {ys : List β} (h : Paired R (x :: xs) ys) : ∃ (y : β) (ys' : List β), ys = y :: ys' ∧ R x y ∧ Paired R xs ys' := by
  cases h with | cons h0 h => exact ⟨_, _, rfl, h0, h⟩
theorem paired_3 {α β : Type} {R : α → β → Prop} {x0 x1 x2 : α} {ys : List β} (h : Paired R [x0, x1, x2] ys) : Ex3 fun (y0 y1 y2 : β) => ys = [y0, y1, y2] ∧ R x0 y0 ∧ R x1 y1 ∧ R x2 y2 := by
  obtain ⟨y0, r0, rfl, h0, g0⟩ := paired_c h
  obtain ⟨y1, r1, rfl, h1, g1⟩ := paired_c g0
  obtain ⟨y2, r2, rfl, h2, g2⟩ := paired_c g1
  cases g2
  exact ⟨y0, y1, y2, rfl, h0, h1, h2⟩
theorem wR {f : Int → Str} {k0 : Int} {t0 : Tok} {y : Value} (h : (fun v y => ∃ k t t', v = Value.int k t ∧ y = .str (f k) t') (Value.int k0 t0) y) : ∃ w, y = .str (f k0) w := by
  obtain ⟨k, t, w, e, h⟩ := h
  injection e with e1 e2
  exact ⟨w, e1 ▸ h⟩
theorem dR {f : Int → Int} {k0 : Int} {t0 : Tok} {y : Value} (h : (fun v y => ∃ k t t', v = Value.int k t ∧ y = .int (f k) t') (Value.int k0 t0) y) : ∃ w, y = .int (f k0) w := by
  obtain ⟨k, t, w, e, h⟩ := h
  injection e with e1 e2
  exact ⟨w, e1 ▸ h⟩
theorem words_three {ys : List Value} {a b : Nat} {k0 k1 k2 : Int} {t0 t1 t2 : Tok} (h : Paired (fun v y => ∃ k t t', v = Value.int k t ∧ y = .str (S (wordL (k.fmod 6) a b)) t') (([.int k0 t0, .int k1 t1, .int k2 t2] : List Value).filter fun _ => true) ys) :
    Ex3 fun w0 w1 w2 => ys = [.str (S (wordL (k0.fmod 6) a b)) w0, .str (S (wordL (k1.fmod 6) a b)) w1, .str (S (wordL (k2.fmod 6) a b)) w2] := by
  rw [List.filter_eq_self.mpr (fun _ _ => rfl)] at h
  obtain ⟨y0, y1, y2, e, h0, h1, h2⟩ := paired_3 h
  obtain ⟨w0, e0⟩ := wR (f := fun k => S (wordL (k.fmod 6) a b)) h0
  obtain ⟨w1, e1⟩ := wR (f := fun k => S (wordL (k.fmod 6) a b)) h1
  obtain ⟨w2, e2⟩ := wR (f := fun k => S (wordL (k.fmod 6) a b)) h2
  exact ⟨w0, w1, w2, by rw [e, e0, e1, e2]⟩
theorem dress_three {ys : List Value} {k0 k1 k2 : Int} {t0 t1 t2 : Tok} (h : Paired (fun v y => ∃ k t t', v = Value.int k t ∧ y = .int ((k.fdiv 6).fmod 4) t') (([.int k0 t0, .int k1 t1, .int k2 t2] : List Value).filter fun _ => true) ys) :
    Ex3 fun w0 w1 w2 => ys = [.int ((k0.fdiv 6).fmod 4) w0, .int ((k1.fdiv 6).fmod 4) w1, .int ((k2.fdiv 6).fmod 4) w2] := by
  rw [List.filter_eq_self.mpr (fun _ _ => rfl)] at h
  obtain ⟨y0, y1, y2, e, h0, h1, h2⟩ := paired_3 h
  obtain ⟨w0, e0⟩ := dR (f := fun k => (k.fdiv 6).fmod 4) h0
  obtain ⟨w1, e1⟩ := dR (f := fun k => (k.fdiv 6).fmod 4) h1
  obtain ⟨w2, e2⟩ := dR (f := fun k => (k.fdiv 6).fmod 4) h2
  exact ⟨w0, w1, w2, by rw [e, e0, e1, e2]⟩
theorem word_facts (k : Int) {a b : Nat} (ha : a ∈ stockL) (hb : b ∈ stockL) : wordL (k.fmod 6) a b ≠ [] ∧ (wordL (k.fmod 6) a b).length ≤ 2 ∧ ∀ c ∈ wordL (k.fmod 6) a b, c ∈ stockL := by
  unfold wordL
  (repeat' split) <;> simp [ha, hb]
theorem kw40 : True := by
  (k_with "9compareOp In ref ref" => ((fail_if_success first | have := @Mine.e9s16 | fail); with_unfolding_all (first | with_reducible refine stopW ?_ | refine stopW ?_)))
  (k_with "9exec For Name Tuple cons nil" => ((fail_if_success first | have := @Mine.e9s16 | fail); with_unfolding_all (first | with_reducible refine stopW ?_ | refine stopW ?_)))
  trivial
structure SlStop : Prop where
  tt : True
theorem stopSl {α : Type} {M : Model} {A : Around} {x : Sem α} {Q : α → Shared → Prop} {E : Value → Shared → Prop} {s : Shared} (_ : SlStop) (h : Hold (wpAny M A x Q E s)) : wpAny M A x Q E s := h
theorem kw41 : True := by
  (k_with "9subscriptTail Name Slice ref ref" => ((fail_if_success first | have := @Mine.e9s16 | fail); with_unfolding_all (first | with_reducible refine stopSl (by assumption) ?_ | refine stopSl (by assumption) ?_)))
  trivial
theorem step2 (a b c d e f : Value) : slicePick #[a, b, c, d, e, f] none none (some 2) = #[a, c, e] := by
  have h1 : sliceBounds none none (some 2) 6 = (0, 6, 2) := by decide +kernel
  have h2 : sliceRange 0 6 2 = [0, 2, 4] := by decide +kernel
  unfold slicePick
  simp [h1, h2]
theorem kw42 : True := by
  (k_with "k_ne" => ((fail_if_success first | have := @Mine.e9s16 | fail); first | with_reducible assumption | with_reducible refine Ne.symm ?_; assumption | ((with_reducible rename (_ ≠ _ ∧ _) ∧ _ => hc9); first | simp only [hc9, ne_eq, not_false_eq_true]; done | refine Ne.symm ?_; simp only [hc9, ne_eq, not_false_eq_true]; done | refine neN ?_; (try dsimp only); simp only [hc9, ne_eq, not_false_eq_true]; done) | refine neN ?_; (try dsimp only); omega))
  trivial
theorem lh.tw13294779597036353814:True:=⟨⟩
theorem lh.tw9792038857682641351:True:=⟨⟩
theorem lh.tw6053494252237163831:True:=⟨⟩
theorem lh.tw18148729645346885639:True:=⟨⟩
theorem lh.tw16098514137179401460:True:=⟨⟩
theorem lh.tw17385334704642833232:True:=⟨⟩
theorem lh.tw9921426880955775130:True:=⟨⟩
theorem lh.tw8107420758346626896:True:=⟨⟩
theorem lh.tw6811306897834160336:True:=⟨⟩
theorem lh.tw1887191166125916609:True:=⟨⟩
theorem lh.tw7673579152192024568:True:=⟨⟩
theorem lh.tw4956270015004490638:True:=⟨⟩
theorem lh.tw16084403513257975603:True:=⟨⟩
theorem lh.tw56925155244731948:True:=⟨⟩
theorem lh.tw2661748430734228554:True:=⟨⟩
theorem lh.tw15152073894171584678:True:=⟨⟩
theorem lh.tw12824735245694586027:True:=⟨⟩
theorem lh.tw2176381613873660672:True:=⟨⟩
theorem lh.tw8434598792468666055:True:=⟨⟩
theorem lh.tw6102825820616243608:True:=⟨⟩
theorem lh.tw3642858129848349328:True:=⟨⟩
theorem lh.tw9458066406069952610:True:=⟨⟩
theorem lh.tw11359770556755833405:True:=⟨⟩
theorem lh.tw1638415759913752477:True:=⟨⟩
theorem lh.tw5250319689887568553:True:=⟨⟩
theorem lh.tw1916023574925729698:True:=⟨⟩
theorem lh.tw2710571820093635817:True:=⟨⟩
theorem lh.tw3456853317875637854:True:=⟨⟩
theorem lh.tw5847089932981716950:True:=⟨⟩
theorem lh.tw17400651777840397794:True:=⟨⟩
theorem lh.tw5157334144399949907:True:=⟨⟩
theorem lh.tw15634644310989601601:True:=⟨⟩
theorem lh.tw7934145764955088408:True:=⟨⟩
theorem lh.tw7006428235376398833:True:=⟨⟩
theorem lh.tw17984201983497935648:True:=⟨⟩
theorem lh.tw7486683508045043296:True:=⟨⟩
theorem lh.tw2369762485655769953:True:=⟨⟩
theorem lh.tw4681051974728028668:True:=⟨⟩
theorem lh.tw9116953959669209330:True:=⟨⟩
theorem lh.tw7479680135019881899:True:=⟨⟩
theorem lh.tw2492265676858883586:True:=⟨⟩
theorem lh.tw14362648616148323395:True:=⟨⟩
theorem lh.tw8632589335409568596:True:=⟨⟩
theorem lh.tw13442052102403943148:True:=⟨⟩
theorem lh.tw12838378171562048604:True:=⟨⟩
theorem lh.tw16627116941216509606:True:=⟨⟩
theorem lh.tw17811394588567328249:True:=⟨⟩
theorem lh.tw13981318942095447293:True:=⟨⟩
theorem lh.tw7275590976448138104:True:=⟨⟩
theorem lh.tw1562692022861609991:True:=⟨⟩
theorem lh.tw8505801130312919728:True:=⟨⟩
theorem lh.tw17161363894357767069:True:=⟨⟩
theorem lh.tw15226813772236538355:True:=⟨⟩
theorem lh.tw10288924993198845208:True:=⟨⟩
theorem lh.tw14070538382790824542:True:=⟨⟩
theorem lh.tw630347310723363576:True:=⟨⟩
theorem lh.tw14633396824031854261:True:=⟨⟩
theorem lh.tw3584596987293049992:True:=⟨⟩
theorem lh.tw15994930672199140585:True:=⟨⟩
theorem lh.tw7943619297553201746:True:=⟨⟩
theorem lh.tw12542063667055263986:True:=⟨⟩
theorem lh.tw1492235257465756185:True:=⟨⟩
theorem lh.tw16346288921864043650:True:=⟨⟩
theorem lh.tw5099620892950744226:True:=⟨⟩
theorem lh.tw8500454103294719629:True:=⟨⟩
theorem lh.tw4248404377778028245:True:=⟨⟩
theorem lh.tw1411091912250156522:True:=⟨⟩
theorem lh.tw15557933948074469175:True:=⟨⟩
theorem lh.tw1644611145199324584:True:=⟨⟩
theorem lh.tw16495802802706384259:True:=⟨⟩
theorem lh.tw10960277941887361292:True:=⟨⟩
theorem lh.tw13629838733947890235:True:=⟨⟩
theorem lh.tw11197916851367426357:True:=⟨⟩
theorem lh.tw4725237666303935606:True:=⟨⟩
theorem lh.tw314709114394361531:True:=⟨⟩
theorem lh.tw2758629854381663407:True:=⟨⟩
theorem lh.tw18001490969268368845:True:=⟨⟩
theorem lh.tw12201751497035550469:True:=⟨⟩
theorem lh.tw7931015407174872776:True:=⟨⟩
theorem lh.tw2255301527098780635:True:=⟨⟩
theorem lh.tw16223100483289546500:True:=⟨⟩
theorem lh.tw4256831124107289836:True:=⟨⟩
theorem lh.tw14363297289260873064:True:=⟨⟩
theorem lh.tw10894699640924003676:True:=⟨⟩
theorem lh.tw17659178753960337881:True:=⟨⟩
theorem lh.tw1952835936967506587:True:=⟨⟩
theorem lh.tw17090601313127624219:True:=⟨⟩
theorem lh.tw16995828150313492151:True:=⟨⟩
theorem lh.tw2359337763663106524:True:=⟨⟩
theorem lh.tw10076080569875302591:True:=⟨⟩
theorem lh.tw11134735744656981350:True:=⟨⟩
theorem lh.tw3542594243672702392:True:=⟨⟩
theorem lh.tw4304861086016416334:True:=⟨⟩
theorem lh.tw13029384333918745569:True:=⟨⟩
theorem lh.tw13773898422146774182:True:=⟨⟩
theorem lh.tw13509266607750609986:True:=⟨⟩
theorem lh.tw16170468833763589831:True:=⟨⟩
theorem lh.tw15336406457049956160:True:=⟨⟩
theorem lh.tw1268147613567681883:True:=⟨⟩
theorem lh.tw7987373209072734421:True:=⟨⟩
theorem lh.tw6907013054106395581:True:=⟨⟩
theorem lh.tw6859857024986690854:True:=⟨⟩
theorem lh.tw4024046112581988936:True:=⟨⟩
theorem lh.tw8514058628584163396:True:=⟨⟩
theorem lh.tw16614442808397257745:True:=⟨⟩
theorem lh.tw8065188406363503898:True:=⟨⟩
theorem lh.tw11152000077410248748:True:=⟨⟩
theorem lh.tw12943548034475022876:True:=⟨⟩
theorem lh.tw4090820435606987176:True:=⟨⟩
theorem lh.tw13188804791401066482:True:=⟨⟩
theorem lh.tw2288861038835155577:True:=⟨⟩
theorem lh.tw6845957288820322522:True:=⟨⟩
theorem lh.tw3458281955267653878:True:=⟨⟩
theorem lh.tw15649502564272425316:True:=⟨⟩
theorem lh.tw8896262217003433853:True:=⟨⟩
theorem lh.tw2240751825196771141:True:=⟨⟩
theorem lh.tw5647759244568699970:True:=⟨⟩
theorem lh.tw12189425344406880481:True:=⟨⟩
theorem lh.tw5891050132036122302:True:=⟨⟩
theorem lh.tw9731777141336937051:True:=⟨⟩
theorem lh.tw14819151433013191943:True:=⟨⟩
theorem lh.tw16785600589600319941:True:=⟨⟩
theorem lh.tw12258603155625196382:True:=⟨⟩
theorem lh.tw11888188191519560821:True:=⟨⟩
theorem lh.tw12559390487170733366:True:=⟨⟩
theorem lh.tw17902547258619099451:True:=⟨⟩
theorem lh.tw428599219239175875:True:=⟨⟩
theorem lh.tw3597225175254444135:True:=⟨⟩
theorem lh.tw9439659486944439058:True:=⟨⟩
theorem lh.tw11308939396692984460:True:=⟨⟩
theorem lh.tw11423797236895902361:True:=⟨⟩
theorem lh.tw7263491276779889925:True:=⟨⟩
theorem lh.tw1997346335542464675:True:=⟨⟩
theorem lh.tw349047008987037084:True:=⟨⟩
theorem lh.tw5405994475766536271:True:=⟨⟩
theorem lh.tw13874504632575345835:True:=⟨⟩
theorem lh.tw15790478122988322419:True:=⟨⟩
theorem lh.tw16629819344483245704:True:=⟨⟩
theorem lh.tw6596623032311625346:True:=⟨⟩
theorem lh.tw10984128766897385422:True:=⟨⟩
theorem lh.tw13550792473091070317:True:=⟨⟩
theorem lh.tw3537457691740282569:True:=⟨⟩
theorem lh.tw3661665229230544058:True:=⟨⟩
theorem lh.tw6775766590596143249:True:=⟨⟩
theorem lh.tw16621304430623114722:True:=⟨⟩
theorem lh.tw9998559793207753885:True:=⟨⟩
theorem lh.tw13843026682647560047:True:=⟨⟩
theorem lh.tw5904544496837604013:True:=⟨⟩
theorem lh.tw16965254525812630188:True:=⟨⟩
theorem lh.tw3660858675683205949:True:=⟨⟩
theorem lh.tw12528276369499931574:True:=⟨⟩
theorem lh.tw14004883790036431178:True:=⟨⟩
theorem lh.tw12609430089011658004:True:=⟨⟩
theorem lh.tw15327262427063438959:True:=⟨⟩
theorem lh.tw5304875537461702106:True:=⟨⟩
theorem lh.tw13581808986093854366:True:=⟨⟩
theorem lh.tw14123980060768723944:True:=⟨⟩
theorem lh.tw12405328287428527658:True:=⟨⟩
theorem lh.tw9871706780761471673:True:=⟨⟩
theorem lh.tw14107340410914380749:True:=⟨⟩
theorem lh.tw11989979362472942708:True:=⟨⟩
theorem lh.tw14792759423041934222:True:=⟨⟩
theorem lh.tw3998524581220084504:True:=⟨⟩
theorem lh.tw16731884717011427360:True:=⟨⟩
theorem lh.tw7946432205266378266:True:=⟨⟩
theorem lh.tw4343050182284574908:True:=⟨⟩
theorem lh.tw5423763770669500325:True:=⟨⟩
theorem lh.tw1556041092340178727:True:=⟨⟩
theorem lh.tw1809592990707771502:True:=⟨⟩
theorem lh.tw8735454195943466252:True:=⟨⟩
theorem lh.tw13258832651069614559:True:=⟨⟩
theorem lh.tw18209153126786987919:True:=⟨⟩
theorem lh.tw2586343532675651252:True:=⟨⟩
theorem lh.tw13468146106160928626:True:=⟨⟩
theorem lh.tw4730641000645612661:True:=⟨⟩
theorem lh.tw7124308597566896761:True:=⟨⟩
theorem lh.tw5924207650537263157:True:=⟨⟩
theorem lh.tw13313996104241928431:True:=⟨⟩
theorem lh.tw11422417638635013021:True:=⟨⟩
theorem lh.tw3053861159043992237:True:=⟨⟩
theorem lh.tw3917158180238919507:True:=⟨⟩
theorem lh.tw913768306995178464:True:=⟨⟩
theorem lh.tw16990069167341181914:True:=⟨⟩
theorem lh.tw14359730677001662965:True:=⟨⟩
theorem lh.tw7769502052302433283:True:=⟨⟩
theorem lh.tw17837920151493308379:True:=⟨⟩
theorem lh.tw5476343343294991191:True:=⟨⟩
theorem lh.tw17675849366718578867:True:=⟨⟩
theorem lh.tw3107992013669510316:True:=⟨⟩
theorem lh.tw17794621864451803885:True:=⟨⟩
theorem lh.tw10622417583664338970:True:=⟨⟩
theorem lh.tw10196997976142629043:True:=⟨⟩
theorem lh.tw13310125266613566046:True:=⟨⟩
theorem lh.tw11962854394753504079:True:=⟨⟩
theorem lh.tw9010562470137866872:True:=⟨⟩
theorem lh.tw8451214559705442570:True:=⟨⟩
theorem lh.tw576912654972273061:True:=⟨⟩
theorem lh.tw8024810398113555096:True:=⟨⟩
theorem lh.tw5786200949763750122:True:=⟨⟩
theorem lh.tw5250892032190446351:True:=⟨⟩
theorem lh.tw9758490337728092065:True:=⟨⟩
theorem lh.tw5713254812359314145:True:=⟨⟩
theorem lh.tw15820430478201141212:True:=⟨⟩
theorem lh.tw10018417655703854143:True:=⟨⟩
theorem lh.tw9396097069397138908:True:=⟨⟩
theorem lh.tw5725424199524710042:True:=⟨⟩
theorem lh.tw10048739345644955526:True:=⟨⟩
theorem lh.tw6340657440745769524:True:=⟨⟩
theorem lh.tw5758037877693657454:True:=⟨⟩
theorem lh.tw1137317634005676301:True:=⟨⟩
theorem lh.tw7611412122042620943:True:=⟨⟩
theorem lh.tw1131629845853452052:True:=⟨⟩
theorem lh.tw14919931159354911790:True:=⟨⟩
theorem lh.tw3144072267715374785:True:=⟨⟩
theorem lh.tw5459789947921392918:True:=⟨⟩
theorem lh.tw9894376567547473078:True:=⟨⟩
theorem lh.tw1119490754048954991:True:=⟨⟩
theorem lh.tw7007292969877127211:True:=⟨⟩
theorem lh.tw11366515307818799862:True:=⟨⟩
theorem lh.tw1545160758756492842:True:=⟨⟩
theorem lh.tw4634356191666478396:True:=⟨⟩
theorem lh.tw7728824100060544452:True:=⟨⟩
theorem lh.tw9709935689401242413:True:=⟨⟩
theorem lh.tw6151738098851495335:True:=⟨⟩
theorem lh.tw9987916912234790308:True:=⟨⟩
theorem lh.tw2302393260007218282:True:=⟨⟩
theorem lh.tw8873411900320905217:True:=⟨⟩
theorem lh.tw18098086817187480094:True:=⟨⟩
theorem lh.tw11518206052477393594:True:=⟨⟩
theorem lh.tw1693401553416008106:True:=⟨⟩
theorem lh.tw9691386995982292331:True:=⟨⟩
theorem lh.tw15618995846463149478:True:=⟨⟩
theorem lh.tw4796767991256149017:True:=⟨⟩
theorem lh.tw12486407516352831661:True:=⟨⟩
theorem lh.tw9431184039428247908:True:=⟨⟩
theorem lh.tw3776789683529393054:True:=⟨⟩
theorem lh.tw14550488416362014061:True:=⟨⟩
theorem lh.tw13764700326054002097:True:=⟨⟩
theorem lh.tw12275447441164378777:True:=⟨⟩
theorem lh.tw2925306695221626851:True:=⟨⟩
theorem lh.tw10693050231779820178:True:=⟨⟩
theorem lh.tw12634052621422736211:True:=⟨⟩
theorem lh.tw9469724370625033662:True:=⟨⟩
theorem lh.tw3495554135632401029:True:=⟨⟩
theorem lh.tw12887481692453455669:True:=⟨⟩
theorem lh.tw13641720329757107259:True:=⟨⟩
theorem lh.tw6576338159023874832:True:=⟨⟩
theorem lh.tw8972647177073931317:True:=⟨⟩
theorem lh.tw1109978824953668217:True:=⟨⟩
theorem lh.tw13871081826114924444:True:=⟨⟩
theorem lh.tw5821283595178397760:True:=⟨⟩
theorem lh.tw18394793212206687615:True:=⟨⟩
theorem lh.tw16245021664074981028:True:=⟨⟩
theorem lh.tw6364905130456143145:True:=⟨⟩
theorem lh.tw12054229453222820253:True:=⟨⟩
theorem lh.tw7368870818342026902:True:=⟨⟩
theorem lh.tw13021373358453846721:True:=⟨⟩
theorem lh.tw3221746682735479266:True:=⟨⟩
theorem lh.tw215091872296093671:True:=⟨⟩
theorem lh.tw7982869255738360149:True:=⟨⟩
theorem lh.tw6634585332450059208:True:=⟨⟩
theorem lh.tw17166072858908436941:True:=⟨⟩
theorem lh.tw12115634725150382675:True:=⟨⟩
theorem lh.tw16334996182982697103:True:=⟨⟩
set_option Elab.async true in
theorem lh : PySem.Challenge.rw_rx0047_01.Holds := by
  w_on
  o_law
  k_head
  (case hw => w_witness2)
  k_fill
  intro w s₀ s₁ mg mb G Y fa o pm cd doc dV kV ho hd hcd hD hmg hg args vals as hpre hlay hrd hwl hlo
  have KX := km_in_of Y
  km_tabs Y
  have X := (Ground.X G).1
  have V := (Ground.X G).2
  refine Ground.open G ?_
  intro T B D TE TW
  try (refine guard_noD D (by decide +kernel) ?_; clear D)
  km_lay T hmg ho hd cd
  clear hmg
  wrow_args hpre hlay hrd hwl hlo
  all_goals (
    first | refine callC_kw (enter_call ?_) | refine enter_call ?_
    w_top on
    refine kn_postB hT9 (fun _ _ => rfl) (by with_unfolding_all rfl) ?_
    w_call any ho hd hcd hD T F
    clear hd
    kn_ghosts F T
    k_drop
    skip)
  (all_goals try k_fold)
  walk_at "nm"
  (rename Below _ _ _ _ => B')
  clear Y V B TE TW X hT8 hT9 G T
  have hC57 : CodeHd (ghostOf s₁.heap [(57, 53), (156, 152), (88, 84)]) 57 53 := by assumption
  have hC156 : CodeHd (ghostOf s₁.heap [(57, 53), (156, 152), (88, 84)]) 156 152 := by assumption
  have hC88 : CodeHd (ghostOf s₁.heap [(57, 53), (156, 152), (88, 84)]) 88 84 := by assumption
  generalize ghostOf s₁.heap [(57, 53), (156, 152), (88, 84)] = base at *
  generalize s₁.heap.objs.size = L at *
  (rename Frag.In _ _ => X9)
  have X' : (Mine.hd0.heap_1 w.params).In base := X9
  clear X9
  (rename Top _ _ _ _ _ _ => T')
  rename_i h₁ tk₁ c1 c2 c3 cd1 cd2 le1 le2 le3 X0 l0
  rename List Int => ns
  (rename IntsAre _ _ => hIs)
  have e1 : c1.data = Data.cell none := le1
  have e2 : c2.data = Data.cell none := le2
  have e3 : c3.data = Data.cell none := le3
  obtain ⟨m0, F9⟩ := clean_fr F' (x := Str.ofString "script") rfl
  clear F' le1 le2 le3 X0 cd1 cd2 codeHd
  have F' := F9
  clear F9
  have stp : GoStop := ⟨trivial⟩
  have bare0 : AllBare s₁.gens := AllBare.of_eq hg
  (try clear ho hcd)
  (try clear hs)
  (try clear hlay0)
  (try clear hL)
  (try clear hr)
  (try clear hl2)
  (with_reducible refine' cut9 (base := base) (os := s₁.os) ?body ?fin)
  case fin =>
    intro u9_0 s9 hP9
    refine gfold ?_
    intro G9
    obtain ⟨eq0, z1, z2, z3, z4⟩ := hP9
    k_unfold
    (try clear G9)
    subst eq0
    exact ⟨rfl, z1, z2, z3, z4⟩
  rename_i w4 w3 la vals w0 q1 q2 q3 q4 q5 q6 q7
  (try clear hD)
  (try clear hg)
  (try clear q2 q3 q4 q5)
  (try clear q1)
  clear w4 w3 w0 o pm doc
  (try revert hIs)
  (try revert bare0)
  (try revert stp)
  (try revert F')
  (try revert e3)
  (try revert e2)
  (try revert e1)
  (try revert N')
  (try revert l0)
  (try revert hC88)
  (try revert hC156)
  (try revert hC57)
  (try revert lifted)
  (try revert B')
  (try revert T')
  (try revert X')
  (repeat ((rename (_ : Prop) => z9); (fail_if_success (have : Clm := z9)); revert z9))
  revert w s₀ s₁ mg mb fa cd ns la vals h₁ tk₁ c1 c2 c3 base L m0
  (refine no_implicit_lambda% (close18 28095 ?ne_1 (R := ?R_1) ((?nw_1 : ∀ w s₀ s₁ mg mb fa cd ns la vals h₁ tk₁ c1 c2 c3 base L m0, ?R_1 w s₀ s₁ mg mb fa cd ns la vals h₁ tk₁ c1 c2 c3 base L m0) (Mine.cl 28095 ?ne_1 (un18 ?R_1)).1.1.1.1.1 (Mine.cl 28095 ?ne_1 (un18 ?R_1)).1.1.1.1.2 (Mine.cl 28095 ?ne_1 (un18 ?R_1)).1.1.1.2 (Mine.cl 28095 ?ne_1 (un18 ?R_1)).1.1.2.1 (Mine.cl 28095 ?ne_1 (un18 ?R_1)).1.1.2.2 (Mine.cl 28095 ?ne_1 (un18 ?R_1)).1.2.1.1 (Mine.cl 28095 ?ne_1 (un18 ?R_1)).1.2.1.2 (Mine.cl 28095 ?ne_1 (un18 ?R_1)).1.2.2.1 (Mine.cl 28095 ?ne_1 (un18 ?R_1)).1.2.2.2 (Mine.cl 28095 ?ne_1 (un18 ?R_1)).2.1.1.1.1 (Mine.cl 28095 ?ne_1 (un18 ?R_1)).2.1.1.1.2 (Mine.cl 28095 ?ne_1 (un18 ?R_1)).2.1.1.2 (Mine.cl 28095 ?ne_1 (un18 ?R_1)).2.1.2.1 (Mine.cl 28095 ?ne_1 (un18 ?R_1)).2.1.2.2 (Mine.cl 28095 ?ne_1 (un18 ?R_1)).2.2.1.1 (Mine.cl 28095 ?ne_1 (un18 ?R_1)).2.2.1.2 (Mine.cl 28095 ?ne_1 (un18 ?R_1)).2.2.2.1 (Mine.cl 28095 ?ne_1 (un18 ?R_1)).2.2.2.2)))
  (case ne_1 => repeat (first | exact ⟨default⟩ | exact neS | exact neW | exact neA | refine ne2 ?_ ?_))
  intro w s₀ s₁ mg mb fa cd ns la vals h₁ tk₁ c1 c2 c3 base L m0
  (set_option tactic.hygienic false in intros)
  have mk9 : Clm := ⟨trivial⟩
  k_steps
  unfold Hold
  (with_reducible refine' cutE5 Flow.next ?S1 ?P1 ?A1 ?B1)
  (case S1 => exact (fun (h : Heap) (tk : Nat) (D : Addr) (ys : List Value) (m1 : Str → Option Value) => { heap := h, gens := s₁.gens, drawn := s₁.drawn, toks := tk, os := s₁.os }))
  (case P1 => exact (fun (h : Heap) (tk : Nat) (D : Addr) (ys : List Value) (m1 : Str → Option Value) => IntsAre ys ((List.take 6 ns).map (·.fmod (10 ^ Int.toNat 6))) ∧ Fr base L h (fun z => if z = Str.ofString "drawn" then some (.ref D) else m1 z) ∧ News base L h [(D, LCg.lst ys), (L + 1 + 1 + 1, c1), (L + 1 + 1, c2), (L + 1, c3), (53, tabObj #[]), (152, tabObj #[]), (84, tabObj #[])]))
  case A1 =>
    (try clear stp)
    k_steps
    (rename Fr _ _ _ _ => F2)
    (rename News _ _ _ _ => N2)
    (rename IntsAre _ (List.map _ (List.take 6 _)) => hI8)
    refine CE5.mk _ _ _ _ _ ⟨hI8, F2, cb_drop N2 (List.forall_mem_cons.mpr ⟨.head _, fun p hp => .tail _ (.tail _ hp)⟩)⟩
  case B1 =>
  (try clear F')
  (try clear N')
  intro h tk D ys m1 hP9
  refine gfold ?_
  intro G9
  obtain ⟨hys, F', N'⟩ := hP9
  k_unfold
  (try clear G9)
  (try revert N')
  (try revert F')
  (try revert hys)
  (repeat ((rename (_ : Prop) => z9); (fail_if_success (have : Clm := z9)); revert z9))
  revert h tk D ys m1
  (refine no_implicit_lambda% (close5 36456 ?ne_2 (R := ?R_2) ((?nw_2 : ∀ h tk D ys m1, ?R_2 h tk D ys m1) (Mine.cl 36456 ?ne_2 (un5 ?R_2)).1.1.1 (Mine.cl 36456 ?ne_2 (un5 ?R_2)).1.1.2 (Mine.cl 36456 ?ne_2 (un5 ?R_2)).1.2 (Mine.cl 36456 ?ne_2 (un5 ?R_2)).2.1 (Mine.cl 36456 ?ne_2 (un5 ?R_2)).2.2)))
  (case ne_2 => repeat (first | exact ⟨default⟩ | exact neS | exact neW | exact neA | refine ne2 ?_ ?_))
  intro h tk D ys m1
  (set_option tactic.hygienic false in intros)
  have mk9 : Clm := ⟨trivial⟩
  have hyl : ys.length = min 6 ns.length := by rw [hys.length]; simp
  have hyl6 : ys.length ≤ 6 := by omega
  have N2 : News base L h [(D, listOf (List.toArray ys) ys.length), (L + 1 + 1 + 1, c1), (L + 1 + 1, c2), (L + 1, c3), (53, tabObj #[]), (152, tabObj #[]), (84, tabObj #[])] := N'
  (try clear N')
  have N' := N2
  (try clear N2)
  k_steps
  unfold Hold
  (with_reducible refine' cutE16 Flow.next ?S2 ?P2 ?A2 ?B2)
  (case S2 => exact (fun (h : Heap) (tk : Nat) (ln : Addr) (n0 n1 n2 n3 n4 n5 : Int) (u0 u1 u2 u3 u4 u5 : Tok) (m1 : Str → Option Value) => { heap := h, gens := s₁.gens, drawn := s₁.drawn, toks := tk, os := s₁.os }))
  (case P2 => exact (fun (h : Heap) (tk : Nat) (ln : Addr) (n0 n1 n2 n3 n4 n5 : Int) (u0 u1 u2 u3 u4 u5 : Tok) (m1 : Str → Option Value) => (∀ k ∈ [n0, n1, n2, n3, n4, n5], 0 ≤ k ∧ k < 1000000) ∧ Fr base L h (fun z => if z = Str.ofString "numbers" then some (.ref ln) else m1 z) ∧ News base L h [(ln, listOf (List.toArray [.int n0 u0, .int n1 u1, .int n2 u2, .int n3 u3, .int n4 u4, .int n5 u5]) 0), (L + 1 + 1 + 1, c1), (L + 1 + 1, c2), (L + 1, c3), (53, tabObj #[]), (152, tabObj #[]), (84, tabObj #[])] ∧ ∀ p ∈ [(L + 1 + 1 + 1, c1), (L + 1 + 1, c2), (L + 1, c3), (53, tabObj #[]), (152, tabObj #[]), (84, tabObj #[])], p.1 < ln))
  case A2 =>
    (try clear stp)
    k_steps
    unfold Hold
    walk_at "nm"
    refine kba_turn (value' := PySem.Expr.Name (PySem.Str.ofString "_") ⟨0, 0, 0, 0⟩) (fun _ => rfl) ?_
    refine r_lslice (vs := [_, _, _, _, _, _]) F' N' (.head _) (.int _ _) .none (by simp) (cut6 hyl6) ?_
    intro xd' h' F' N' l1
    (try k_lt l1)
    k_steps
    unfold Hold
    walk_at "nm"
    refine r_cat (vs := ys) F' N' (by k_mem) (.head _) ?hz ?_
    case hz => simp; omega
    intro lnum h' F' N' l1
    have l2 := l1
    (try k_lt l1)
    refine gfold ?_
    intro G9
    obtain ⟨n0, n1, n2, n3, n4, n5, u0, u1, u2, u3, u4, u5, hnum, hnb⟩ := numbers_six hys
    k_unfold
    (try clear G9)
    rw [hnum] at N'
    (try dsimp only at N' ⊢)
    k_steps
    walk_at "nm"
    refine CE16.mk _ _ lnum n0 n1 n2 n3 n4 n5 u0 u1 u2 u3 u4 u5 _ ⟨hnb, F', cb_drop N' (by repeat (first | exact List.forall_mem_nil _ | refine List.forall_mem_cons.mpr ⟨by k_mem, ?_⟩)), fun p hp => l2 p ((show ∀ p ∈ _, p ∈ _ by repeat (first | exact List.forall_mem_nil _ | refine List.forall_mem_cons.mpr ⟨by k_mem, ?_⟩)) p hp)⟩
  case B2 =>
  (try clear F')
  (try clear N')
  (try clear hys)
  (try clear hyl)
  (try clear hyl6)
  intro h tk ln n0 n1 n2 n3 n4 n5 u0 u1 u2 u3 u4 u5 m1 hP9
  refine gfold ?_
  intro G9
  obtain ⟨hnb, F', N', l1⟩ := hP9
  k_unfold
  (try clear G9)
  (try revert l1)
  (try revert N')
  (try revert F')
  (try revert hnb)
  (repeat ((rename (_ : Prop) => z9); (fail_if_success (have : Clm := z9)); revert z9))
  revert h tk ln n0 n1 n2 n3 n4 n5 u0 u1 u2 u3 u4 u5 m1
  (refine no_implicit_lambda% (close16 5140 ?ne_3 (R := ?R_3) ((?nw_3 : ∀ h tk ln n0 n1 n2 n3 n4 n5 u0 u1 u2 u3 u4 u5 m1, ?R_3 h tk ln n0 n1 n2 n3 n4 n5 u0 u1 u2 u3 u4 u5 m1) (Mine.cl 5140 ?ne_3 (un16 ?R_3)).1.1.1.1 (Mine.cl 5140 ?ne_3 (un16 ?R_3)).1.1.1.2 (Mine.cl 5140 ?ne_3 (un16 ?R_3)).1.1.2.1 (Mine.cl 5140 ?ne_3 (un16 ?R_3)).1.1.2.2 (Mine.cl 5140 ?ne_3 (un16 ?R_3)).1.2.1.1 (Mine.cl 5140 ?ne_3 (un16 ?R_3)).1.2.1.2 (Mine.cl 5140 ?ne_3 (un16 ?R_3)).1.2.2.1 (Mine.cl 5140 ?ne_3 (un16 ?R_3)).1.2.2.2 (Mine.cl 5140 ?ne_3 (un16 ?R_3)).2.1.1.1 (Mine.cl 5140 ?ne_3 (un16 ?R_3)).2.1.1.2 (Mine.cl 5140 ?ne_3 (un16 ?R_3)).2.1.2.1 (Mine.cl 5140 ?ne_3 (un16 ?R_3)).2.1.2.2 (Mine.cl 5140 ?ne_3 (un16 ?R_3)).2.2.1.1 (Mine.cl 5140 ?ne_3 (un16 ?R_3)).2.2.1.2 (Mine.cl 5140 ?ne_3 (un16 ?R_3)).2.2.2.1 (Mine.cl 5140 ?ne_3 (un16 ?R_3)).2.2.2.2)))
  (case ne_3 => repeat (first | exact ⟨default⟩ | exact neS | exact neW | exact neA | refine ne2 ?_ ?_))
  intro h tk ln n0 n1 n2 n3 n4 n5 u0 u1 u2 u3 u4 u5 m1
  (set_option tactic.hygienic false in intros)
  have mk9 : Clm := ⟨trivial⟩
  k_lt l1
  k_steps
  unfold Hold
  (with_reducible refine' cutE9 Flow.next ?S3 ?P3 ?A3 ?B3)
  (case S3 => exact (fun (h : Heap) (tk : Nat) (ls : Addr) (ta tb : Tok) (a b : Nat) (c3' : Obj) (m1 : Str → Option Value) => { heap := h, gens := s₁.gens, drawn := s₁.drawn, toks := tk, os := s₁.os }))
  (case P3 => exact (fun (h : Heap) (tk : Nat) (ls : Addr) (ta tb : Tok) (a b : Nat) (c3' : Obj) (m1 : Str → Option Value) => a ∈ stockL ∧ b ∈ stockL ∧ c3'.data = Data.cell (some (.ref ls)) ∧ Fr base L h (fun z => if z = Str.ofString "numbers" then some (.ref ln) else m1 z) ∧ News base L h [(ls, W.listOf #[.str (S [a]) ta, .str (S [b]) tb] 0), (ln, (listOf (List.toArray [.int n0 u0, .int n1 u1, .int n2 u2, .int n3 u3, .int n4 u4, .int n5 u5]) 0)), (L + 1 + 1 + 1, c1), (L + 1 + 1, c2), (L + 1, c3'), (53, tabObj #[]), (152, tabObj #[]), (84, tabObj #[])] ∧ ∀ p ∈ [(ln, (listOf (List.toArray [.int n0 u0, .int n1 u1, .int n2 u2, .int n3 u3, .int n4 u4, .int n5 u5]) 0)), (L + 1 + 1 + 1, c1), (L + 1 + 1, c2), (L + 1, c3), (53, tabObj #[]), (152, tabObj #[]), (84, tabObj #[])], p.1 ≠ ls))
  case A3 =>
    (try clear stp)
    k_steps
    unfold Hold
    walk_at "nm"
    with_unfolding_all refine' C_signs (am := ?am) (hdp := ?hdp) (hret := ?hr)
    case am => exact ⟨⟨_, B'⟩, F', X', N', ⟨_, _, _, _, _, T'⟩, rfl, rfl⟩
    case hdp => decide
    case hr =>
      intro ls ta tb h5 tk5 k5 hnl hls
      refine gfold ?_
      intro G9
      obtain ⟨a, b, ha, hb, hls⟩ := signs_two hls
      k_unfold
      (try clear G9)
      have N4 := cb_drop (news := [(ln, (listOf (List.toArray [.int n0 u0, .int n1 u1, .int n2 u2, .int n3 u3, .int n4 u4, .int n5 u5]) 0)), (L + 1 + 1 + 1, c1), (L + 1 + 1, c2), (L + 1, c3), (53, tabObj #[]), (152, tabObj #[]), (84, tabObj #[])]) N' (by repeat (first | exact List.forall_mem_nil _ | refine List.forall_mem_cons.mpr ⟨by k_mem, ?_⟩))
      have nb := backNe N4 hnl
      have nb' := nb
      have F5 := backF F' k5
      have N5 := backA F' (backN N4 k5) hls hnl
      (try clear F')
      (try clear N')
      (try clear N4)
      have F' := F5
      have N' := N5
      (try clear F5)
      (try clear N5)
      simp only [List.forall_mem_cons, List.not_mem_nil, false_implies, implies_true, and_true] at nb'
      refine gfold ?_
      intro G9
      obtain ⟨b1, b2, b3, b4, b5, b6, b7⟩ := nb'
      k_unfold
      (try clear G9)
      k_steps
      walk_at "nm"
      exact CE9.mk _ _ ls ta tb a b _ _ ⟨ha, hb, (by assumption), F', N', nb⟩
  case B3 =>
  (try clear F')
  (try clear N')
  intro h tk ls ta tb a b c3' m1 hP9
  refine gfold ?_
  intro G9
  obtain ⟨ha, hb, e3', F', N', nls⟩ := hP9
  k_unfold
  (try clear G9)
  as_aux_lemma =>
  (try revert nls)
  (try revert N')
  (try revert F')
  (try revert e3')
  (try revert hb)
  (try revert ha)
  (try revert l1)
  (try revert hnb)
  (try revert bare0)
  (try revert stp)
  (try revert e2)
  (try revert e1)
  (try revert l0)
  (try revert hC88)
  (try revert hC156)
  (try revert hC57)
  (try revert B')
  (try revert T')
  (try revert X')
  (repeat ((rename (_ : Prop) => z9); clear z9))
  revert w s₀ s₁ mg mb fa cd ns c1 c2 c3 base L ln n0 n1 n2 n3 n4 n5 u0 u1 u2 u3 u4 u5 h tk ls ta tb a b c3' m1
  (refine no_implicit_lambda% (close35 48996 ?ne_B3 (R := ?R_B3) ((?nw_B3 : ∀ w s₀ s₁ mg mb fa cd ns c1 c2 c3 base L ln n0 n1 n2 n3 n4 n5 u0 u1 u2 u3 u4 u5 h tk ls ta tb a b c3' m1, ?R_B3 w s₀ s₁ mg mb fa cd ns c1 c2 c3 base L ln n0 n1 n2 n3 n4 n5 u0 u1 u2 u3 u4 u5 h tk ls ta tb a b c3' m1) (Mine.cl 48996 ?ne_B3 (un35 ?R_B3)).1.1.1.1.1.1 (Mine.cl 48996 ?ne_B3 (un35 ?R_B3)).1.1.1.1.1.2 (Mine.cl 48996 ?ne_B3 (un35 ?R_B3)).1.1.1.1.2 (Mine.cl 48996 ?ne_B3 (un35 ?R_B3)).1.1.1.2.1 (Mine.cl 48996 ?ne_B3 (un35 ?R_B3)).1.1.1.2.2 (Mine.cl 48996 ?ne_B3 (un35 ?R_B3)).1.1.2.1.1 (Mine.cl 48996 ?ne_B3 (un35 ?R_B3)).1.1.2.1.2 (Mine.cl 48996 ?ne_B3 (un35 ?R_B3)).1.1.2.2.1 (Mine.cl 48996 ?ne_B3 (un35 ?R_B3)).1.1.2.2.2 (Mine.cl 48996 ?ne_B3 (un35 ?R_B3)).1.2.1.1.1.1 (Mine.cl 48996 ?ne_B3 (un35 ?R_B3)).1.2.1.1.1.2 (Mine.cl 48996 ?ne_B3 (un35 ?R_B3)).1.2.1.1.2 (Mine.cl 48996 ?ne_B3 (un35 ?R_B3)).1.2.1.2.1 (Mine.cl 48996 ?ne_B3 (un35 ?R_B3)).1.2.1.2.2 (Mine.cl 48996 ?ne_B3 (un35 ?R_B3)).1.2.2.1.1 (Mine.cl 48996 ?ne_B3 (un35 ?R_B3)).1.2.2.1.2 (Mine.cl 48996 ?ne_B3 (un35 ?R_B3)).1.2.2.2.1 (Mine.cl 48996 ?ne_B3 (un35 ?R_B3)).1.2.2.2.2 (Mine.cl 48996 ?ne_B3 (un35 ?R_B3)).2.1.1.1.1.1 (Mine.cl 48996 ?ne_B3 (un35 ?R_B3)).2.1.1.1.1.2 (Mine.cl 48996 ?ne_B3 (un35 ?R_B3)).2.1.1.1.2 (Mine.cl 48996 ?ne_B3 (un35 ?R_B3)).2.1.1.2.1 (Mine.cl 48996 ?ne_B3 (un35 ?R_B3)).2.1.1.2.2 (Mine.cl 48996 ?ne_B3 (un35 ?R_B3)).2.1.2.1.1 (Mine.cl 48996 ?ne_B3 (un35 ?R_B3)).2.1.2.1.2 (Mine.cl 48996 ?ne_B3 (un35 ?R_B3)).2.1.2.2.1 (Mine.cl 48996 ?ne_B3 (un35 ?R_B3)).2.1.2.2.2 (Mine.cl 48996 ?ne_B3 (un35 ?R_B3)).2.2.1.1.1 (Mine.cl 48996 ?ne_B3 (un35 ?R_B3)).2.2.1.1.2 (Mine.cl 48996 ?ne_B3 (un35 ?R_B3)).2.2.1.2.1 (Mine.cl 48996 ?ne_B3 (un35 ?R_B3)).2.2.1.2.2 (Mine.cl 48996 ?ne_B3 (un35 ?R_B3)).2.2.2.1.1 (Mine.cl 48996 ?ne_B3 (un35 ?R_B3)).2.2.2.1.2 (Mine.cl 48996 ?ne_B3 (un35 ?R_B3)).2.2.2.2.1 (Mine.cl 48996 ?ne_B3 (un35 ?R_B3)).2.2.2.2.2)))
  (case ne_B3 => repeat (first | exact ⟨default⟩ | exact neS | exact neW | exact neA | refine ne2 ?_ ?_))
  intro w s₀ s₁ mg mb fa cd ns c1 c2 c3 base L ln n0 n1 n2 n3 n4 n5 u0 u1 u2 u3 u4 u5 h tk ls ta tb a b c3' m1
  (set_option tactic.hygienic false in intros)
  have mk9 : Clm := ⟨trivial⟩
  (try clear e3)
  have nls' := nls
  simp only [List.forall_mem_cons, List.not_mem_nil, false_implies, implies_true, and_true] at nls'
  refine gfold ?_
  intro G9
  obtain ⟨b1, b2, b3, b4, b5, b6, b7⟩ := nls'
  k_unfold
  (try clear G9)
  k_steps
  unfold Hold
  (with_reducible refine' cutE9 Flow.next ?S4 ?P4 ?A4 ?B4)
  (case S4 => exact (fun (h : Heap) (tk : Nat) (lw : Addr) (w0 w2 w4 : Tok) (nw : Nat) (c2' : Obj) (m1 : Str → Option Value) => { heap := h, gens := s₁.gens, drawn := s₁.drawn, toks := tk, os := s₁.os }))
  (case P4 => exact (fun (h : Heap) (tk : Nat) (lw : Addr) (w0 w2 w4 : Tok) (nw : Nat) (c2' : Obj) (m1 : Str → Option Value) => c2'.data = Data.cell (some (.ref lw)) ∧ Fr base L h (fun z => if z = Str.ofString "numbers" then some (.ref ln) else m1 z) ∧ News base L h [(lw, listOf (List.toArray [.str (S (wordL (n0.fmod 6) a b)) w0, .str (S (wordL (n2.fmod 6) a b)) w2, .str (S (wordL (n4.fmod 6) a b)) w4]) nw), (ls, (W.listOf #[.str (S [a]) ta, .str (S [b]) tb] 0)), (ln, (listOf (List.toArray [.int n0 u0, .int n1 u1, .int n2 u2, .int n3 u3, .int n4 u4, .int n5 u5]) 0)), (L + 1 + 1 + 1, c1), (L + 1 + 1, c2'), (L + 1, c3'), (53, tabObj #[]), (152, tabObj #[]), (84, tabObj #[])] ∧ ∀ p ∈ [(ls, (W.listOf #[.str (S [a]) ta, .str (S [b]) tb] 0)), (ln, (listOf (List.toArray [.int n0 u0, .int n1 u1, .int n2 u2, .int n3 u3, .int n4 u4, .int n5 u5]) 0)), (L + 1 + 1 + 1, c1), (L + 1 + 1, c2), (L + 1, c3'), (53, tabObj #[]), (152, tabObj #[]), (84, tabObj #[])], p.1 ≠ lw))
  case A4 =>
    (try clear stp)
    (with_reducible refine wpAny_Assign_Name ?_ ?_; rotate_left; with_unfolding_all rfl)
    (with_reducible refine' compK (fun _ => true) (fun v y => ∃ k t t', v = .int k t ∧ y = .str (S (wordL (k.fmod 6) a b)) t') ?c1 ?c2 ?c3 ?c4 ?c5 ?c6 ?_ ?c7)
    (case c1 => exact rfl)
    (case c2 => with_unfolding_all rfl)
    (case c3 => decide)
    (case c4 => exact rfl)
    (case c5 => decide)
    (case c6 => exact rfl)
    (case c7 => intro _; exact rfl)
    k_steps
    unfold Hold
    walk_at "nm"
    rw [step2] at N'
    refine ⟨_, [.int n0 u0, .int n2 u2, .int n4 u4], rfl, N'.isList (.head _), (by rw [sizeLine_eq]; exact Nat.le_of_ble_eq_true rfl), ?ct, ?ce, ?ck⟩
    case ct =>
      intro C v s₂ m₂ E' hv hC hn9 hx9 hk
      exact wpAny_pure ⟨rfl, Keeps_refl _⟩
    case ce =>
      intro C v s₂ m₂ E' hv _ hC hn9 hx9 hk
      have hv' : v = .int n0 u0 ∨ v = .int n2 u2 ∨ v = .int n4 u4 := by simpa using hv
      have hv' : ∃ k t, v = .int k t := by rcases hv' with rfl | rfl | rfl <;> exact ⟨_, _, rfl⟩
      (try clear hv)
      obtain ⟨k, t, rfl⟩ := hv'
      k_steps
      unfold Hold
      walk_at "nm"
      with_unfolding_all refine' C_word (am := ?am4) (hdp := ?hdp4) (hm := ?hm4) (hret := ?hr4)
      case am4 => exact ⟨⟨_, B'⟩, F', X', N', ⟨_, _, _, _, _, T'⟩, rfl, rfl⟩
      case hdp4 => decide
      case hm4 => k_mem
      intro t5 h5 tk5 k5
      have F5 := backF F' k5
      have N5 := backN N' k5
      (try clear F')
      (try clear N')
      have F' := F5
      have N' := N5
      (try clear F5)
      (try clear N5)
      (try ((rename InElt _ _ => cE'); (have cE5 : InElt _ _ := fun b o e => k5 _ _ (cE' b o e)); clear cE'; (have cE' := cE5); clear cE5))
      k_steps
      (rename InElt _ _ => cE')
      all_goals first | exact cE' | exact ⟨_, _, _, rfl, rfl⟩ | exact ⟨_, _, rfl, cE'⟩
    case ck =>
      intro D ys h5 tk5 k5 hDn hpl5 hpr
      obtain ⟨w0, w2, w4, rfl⟩ := words_three hpr
      obtain ⟨nnD, hpl5⟩ := hpl5
      have N4 := cb_drop (news := [(ls, (W.listOf #[.str (S [a]) ta, .str (S [b]) tb] 0)), (ln, (listOf (List.toArray [.int n0 u0, .int n1 u1, .int n2 u2, .int n3 u3, .int n4 u4, .int n5 u5]) 0)), (L + 1 + 1 + 1, c1), (L + 1 + 1, c2), (L + 1, c3'), (53, tabObj #[]), (152, tabObj #[]), (84, tabObj #[])]) N' (by repeat (first | exact List.forall_mem_nil _ | refine List.forall_mem_cons.mpr ⟨by k_mem, ?_⟩))
      have nb := backNe N4 hDn
      have nb' := nb
      have F5 := backF F' k5
      have N5 := backA F' (backN N4 k5) hpl5 hDn
      (try clear F')
      (try clear N')
      (try clear N4)
      have F' := F5
      have N' := N5
      (try clear F5)
      (try clear N5)
      (try clear hpr)
      simp only [List.forall_mem_cons, List.not_mem_nil, false_implies, implies_true, and_true] at nb'
      refine gfold ?_
      intro G9
      obtain ⟨z1, z2, z3, z4, z5, z6, z7, z8⟩ := nb'
      k_unfold
      (try clear G9)
      k_steps
      walk_at "nm"
      exact CE9.mk _ _ D w0 w2 w4 nnD _ _ ⟨(by assumption), F', N', nb⟩
  case B4 =>
  (try clear F')
  (try clear N')
  intro h tk lw w0 w2 w4 nw c2' m1 hP9
  refine gfold ?_
  intro G9
  obtain ⟨e2', F', N', nlw⟩ := hP9
  k_unfold
  (try clear G9)
  (try revert nlw)
  (try revert N')
  (try revert F')
  (try revert e2')
  (repeat ((rename (_ : Prop) => z9); (fail_if_success (have : Clm := z9)); revert z9))
  revert h tk lw w0 w2 w4 nw c2' m1
  (refine no_implicit_lambda% (close9 62718 ?ne_5 (R := ?R_5) ((?nw_5 : ∀ h tk lw w0 w2 w4 nw c2' m1, ?R_5 h tk lw w0 w2 w4 nw c2' m1) (Mine.cl 62718 ?ne_5 (un9 ?R_5)).1.1.1.1 (Mine.cl 62718 ?ne_5 (un9 ?R_5)).1.1.1.2 (Mine.cl 62718 ?ne_5 (un9 ?R_5)).1.1.2 (Mine.cl 62718 ?ne_5 (un9 ?R_5)).1.2.1 (Mine.cl 62718 ?ne_5 (un9 ?R_5)).1.2.2 (Mine.cl 62718 ?ne_5 (un9 ?R_5)).2.1.1 (Mine.cl 62718 ?ne_5 (un9 ?R_5)).2.1.2 (Mine.cl 62718 ?ne_5 (un9 ?R_5)).2.2.1 (Mine.cl 62718 ?ne_5 (un9 ?R_5)).2.2.2)))
  (case ne_5 => repeat (first | exact ⟨default⟩ | exact neS | exact neW | exact neA | refine ne2 ?_ ?_))
  intro h tk lw w0 w2 w4 nw c2' m1
  (set_option tactic.hygienic false in intros)
  have mk9 : Clm := ⟨trivial⟩
  (try clear e2)
  have nlw' := nlw
  simp only [List.forall_mem_cons, List.not_mem_nil, false_implies, implies_true, and_true] at nlw'
  refine gfold ?_
  intro G9
  obtain ⟨z1, z2, z3, z4, z5, z6, z7, z8⟩ := nlw'
  k_unfold
  (try clear G9)
  k_steps
  unfold Hold
  (with_reducible refine' cutE9 Flow.next ?S5 ?P5 ?A5 ?B5)
  (case S5 => exact (fun (h : Heap) (tk : Nat) (ld : Addr) (d0 d2 d4 : Tok) (nd : Nat) (c1' : Obj) (m1 : Str → Option Value) => { heap := h, gens := s₁.gens, drawn := s₁.drawn, toks := tk, os := s₁.os }))
  (case P5 => exact (fun (h : Heap) (tk : Nat) (ld : Addr) (d0 d2 d4 : Tok) (nd : Nat) (c1' : Obj) (m1 : Str → Option Value) => c1'.data = Data.cell (some (.ref ld)) ∧ Fr base L h (fun z => if z = Str.ofString "numbers" then some (.ref ln) else m1 z) ∧ News base L h [(ld, listOf (List.toArray [.int ((n0.fdiv 6).fmod 4) d0, .int ((n2.fdiv 6).fmod 4) d2, .int ((n4.fdiv 6).fmod 4) d4]) nd), (lw, listOf (List.toArray [.str (S (wordL (n0.fmod 6) a b)) w0, .str (S (wordL (n2.fmod 6) a b)) w2, .str (S (wordL (n4.fmod 6) a b)) w4]) nw), (ls, (W.listOf #[.str (S [a]) ta, .str (S [b]) tb] 0)), (ln, (listOf (List.toArray [.int n0 u0, .int n1 u1, .int n2 u2, .int n3 u3, .int n4 u4, .int n5 u5]) 0)), (L + 1 + 1 + 1, c1'), (L + 1 + 1, c2'), (L + 1, c3'), (53, tabObj #[]), (152, tabObj #[]), (84, tabObj #[])] ∧ ∀ p ∈ [(lw, listOf (List.toArray [.str (S (wordL (n0.fmod 6) a b)) w0, .str (S (wordL (n2.fmod 6) a b)) w2, .str (S (wordL (n4.fmod 6) a b)) w4]) nw), (ls, (W.listOf #[.str (S [a]) ta, .str (S [b]) tb] 0)), (ln, (listOf (List.toArray [.int n0 u0, .int n1 u1, .int n2 u2, .int n3 u3, .int n4 u4, .int n5 u5]) 0)), (L + 1 + 1 + 1, c1), (L + 1 + 1, c2'), (L + 1, c3'), (53, tabObj #[]), (152, tabObj #[]), (84, tabObj #[])], p.1 ≠ ld))
  case A5 =>
    (try clear stp)
    (with_reducible refine wpAny_Assign_Name ?_ ?_; rotate_left; with_unfolding_all rfl)
    (with_reducible refine' compK (fun _ => true) (fun v y => ∃ k t t', v = .int k t ∧ y = .int ((k.fdiv 6).fmod 4) t') ?c1 ?c2 ?c3 ?c4 ?c5 ?c6 ?_ ?c7)
    (case c1 => exact rfl)
    (case c2 => with_unfolding_all rfl)
    (case c3 => decide)
    (case c4 => exact rfl)
    (case c5 => decide)
    (case c6 => exact rfl)
    (case c7 => intro _; exact rfl)
    k_steps
    unfold Hold
    walk_at "nm"
    rw [step2] at N'
    refine ⟨_, [.int n0 u0, .int n2 u2, .int n4 u4], rfl, N'.isList (.head _), (by rw [sizeLine_eq]; exact Nat.le_of_ble_eq_true rfl), ?ct, ?ce, ?ck⟩
    case ct =>
      intro C v s₂ m₂ E' hv hC hn9 hx9 hk
      exact wpAny_pure ⟨rfl, Keeps_refl _⟩
    case ce =>
      intro C v s₂ m₂ E' hv _ hC hn9 hx9 hk
      have hv' : v = .int n0 u0 ∨ v = .int n2 u2 ∨ v = .int n4 u4 := by simpa using hv
      have hv' : ∃ k t, v = .int k t := by rcases hv' with rfl | rfl | rfl <;> exact ⟨_, _, rfl⟩
      (try clear hv)
      obtain ⟨k, t, rfl⟩ := hv'
      k_steps
      all_goals first | exact Keeps_refl _ | exact ⟨_, _, _, rfl, rfl⟩
    case ck =>
      intro D ys h5 tk5 k5 hDn hpl5 hpr
      obtain ⟨d0, d2, d4, rfl⟩ := dress_three hpr
      obtain ⟨nnD, hpl5⟩ := hpl5
      have N4 := cb_drop (news := [(lw, listOf (List.toArray [.str (S (wordL (n0.fmod 6) a b)) w0, .str (S (wordL (n2.fmod 6) a b)) w2, .str (S (wordL (n4.fmod 6) a b)) w4]) nw), (ls, (W.listOf #[.str (S [a]) ta, .str (S [b]) tb] 0)), (ln, (listOf (List.toArray [.int n0 u0, .int n1 u1, .int n2 u2, .int n3 u3, .int n4 u4, .int n5 u5]) 0)), (L + 1 + 1 + 1, c1), (L + 1 + 1, c2'), (L + 1, c3'), (53, tabObj #[]), (152, tabObj #[]), (84, tabObj #[])]) N' (by repeat (first | exact List.forall_mem_nil _ | refine List.forall_mem_cons.mpr ⟨by k_mem, ?_⟩))
      have nb := backNe N4 hDn
      have nb' := nb
      have F5 := backF F' k5
      have N5 := backA F' (backN N4 k5) hpl5 hDn
      (try clear F')
      (try clear N')
      (try clear N4)
      have F' := F5
      have N' := N5
      (try clear F5)
      (try clear N5)
      (try clear hpr)
      simp only [List.forall_mem_cons, List.not_mem_nil, false_implies, implies_true, and_true] at nb'
      refine gfold ?_
      intro G9
      obtain ⟨y1, y2, y3, y4, y5, y6, y7, y8, y9⟩ := nb'
      k_unfold
      (try clear G9)
      k_steps
      walk_at "nm"
      exact CE9.mk _ _ D d0 d2 d4 nnD _ _ ⟨(by assumption), F', N', nb⟩
  case B5 =>
  (try clear F')
  (try clear N')
  intro h tk ld d0 d2 d4 nd c1' m1 hP9
  refine gfold ?_
  intro G9
  obtain ⟨e1', F', N', nld⟩ := hP9
  k_unfold
  (try clear G9)
  (try revert nld)
  (try revert N')
  (try revert F')
  (try revert e1')
  (repeat ((rename (_ : Prop) => z9); (fail_if_success (have : Clm := z9)); revert z9))
  revert h tk ld d0 d2 d4 nd c1' m1
  (refine no_implicit_lambda% (close9 40220 ?ne_6 (R := ?R_6) ((?nw_6 : ∀ h tk ld d0 d2 d4 nd c1' m1, ?R_6 h tk ld d0 d2 d4 nd c1' m1) (Mine.cl 40220 ?ne_6 (un9 ?R_6)).1.1.1.1 (Mine.cl 40220 ?ne_6 (un9 ?R_6)).1.1.1.2 (Mine.cl 40220 ?ne_6 (un9 ?R_6)).1.1.2 (Mine.cl 40220 ?ne_6 (un9 ?R_6)).1.2.1 (Mine.cl 40220 ?ne_6 (un9 ?R_6)).1.2.2 (Mine.cl 40220 ?ne_6 (un9 ?R_6)).2.1.1 (Mine.cl 40220 ?ne_6 (un9 ?R_6)).2.1.2 (Mine.cl 40220 ?ne_6 (un9 ?R_6)).2.2.1 (Mine.cl 40220 ?ne_6 (un9 ?R_6)).2.2.2)))
  (case ne_6 => repeat (first | exact ⟨default⟩ | exact neS | exact neW | exact neA | refine ne2 ?_ ?_))
  intro h tk ld d0 d2 d4 nd c1' m1
  (set_option tactic.hygienic false in intros)
  have mk9 : Clm := ⟨trivial⟩
  (try clear e1)
  have nld' := nld
  simp only [List.forall_mem_cons, List.not_mem_nil, false_implies, implies_true, and_true] at nld'
  refine gfold ?_
  intro G9
  obtain ⟨y1, y2, y3, y4, y5, y6, y7, y8, y9⟩ := nld'
  k_unfold
  (try clear G9)
  have hx : wordL (n0.fmod 6) a b ≠ [] ∧ (wordL (n0.fmod 6) a b).length ≤ 2 ∧ ∀ c ∈ wordL (n0.fmod 6) a b, c ∈ stockL := word_facts n0 ha hb
  have hy : wordL (n2.fmod 6) a b ≠ [] ∧ (wordL (n2.fmod 6) a b).length ≤ 2 ∧ ∀ c ∈ wordL (n2.fmod 6) a b, c ∈ stockL := word_facts n2 ha hb
  have hz : wordL (n4.fmod 6) a b ≠ [] ∧ (wordL (n4.fmod 6) a b).length ≤ 2 ∧ ∀ c ∈ wordL (n4.fmod 6) a b, c ∈ stockL := word_facts n4 ha hb
  generalize wordL (n0.fmod 6) a b = x at *
  generalize wordL (n2.fmod 6) a b = y at *
  generalize wordL (n4.fmod 6) a b = z at *
  have hd4 : ∀ k ∈ [(n0.fdiv 6).fmod 4, (n2.fdiv 6).fmod 4, (n4.fdiv 6).fmod 4], 0 ≤ k ∧ k < 4 := by
    intro k hk
    simp only [List.mem_cons, List.not_mem_nil, or_false] at hk
    rcases hk with rfl | rfl | rfl <;> exact ⟨Int.fmod_nonneg_of_pos _ (by decide), Int.fmod_lt_of_pos _ (by decide)⟩
  generalize (n0.fdiv 6).fmod 4 = e0 at *
  generalize (n2.fdiv 6).fmod 4 = e2 at *
  generalize (n4.fdiv 6).fmod 4 = e4 at *
  k_steps
  unfold Hold
  (with_reducible refine' cutE12 Flow.next ?S6 ?P6 ?A6 ?B6)
  (case S6 => exact (fun (s₂ : Shared) (lj j1 j2 j3 : Addr) (vs1 vs2 vs3 : List Value) (k1 k2 k3 : Nat) (ps : Array Value) => s₂))
  (case P6 => exact (fun (s₂ : Shared) (lj j1 j2 j3 : Addr) (vs1 vs2 vs3 : List Value) (k1 k2 k3 : Nat) (ps : Array Value) => s₂.os = s₁.os ∧ AllBare s₂.gens ∧ StrsAre vs1 (([[], x, []] : List (List Nat)).map S) ∧ StrsAre vs2 (([[], x, y, []] : List (List Nat)).map S) ∧ StrsAre vs3 (([[], x, y, z, []] : List (List Nat)).map S) ∧ Fr base L s₂.heap (fun q => if q = Str.ofString "judges" then some (.ref lj) else if q = Str.ofString "numbers" then some (.ref ln) else m1 q) ∧ News base L s₂.heap [(lj, LCg.lst [.ref j1, .ref j2, .ref j3]), (j1, listOf (List.toArray vs1) k1), (j2, listOf (List.toArray vs2) k2), (j3, listOf (List.toArray vs3) k3), (lw, (listOf (List.toArray [.str (S x) w0, .str (S y) w2, .str (S z) w4]) nw)), (ls, (W.listOf #[.str (S [a]) ta, .str (S [b]) tb] 0)), (ln, (listOf (List.toArray [.int n0 u0, .int n1 u1, .int n2 u2, .int n3 u3, .int n4 u4, .int n5 u5]) 0)), (L + 1 + 1, c2'), (L + 1, c3'), (53, tabObj #[]), (152, tabObj #[]), (84, tabObj ps)]))
  case A6 =>
    (try clear stp)
    have slp : SlStop := ⟨trivial⟩
    (with_reducible refine' compJA (h₀ := base) (L := L) (m := fun z => if z = Str.ofString "numbers" then some (.ref ln) else m1 z) (JL s₁.os [(ld, (listOf (List.toArray [.int e0 d0, .int e2 d2, .int e4 d4]) nd)), (lw, (listOf (List.toArray [.str (S x) w0, .str (S y) w2, .str (S z) w4]) nw)), (ls, (W.listOf #[.str (S [a]) ta, .str (S [b]) tb] 0)), (ln, (listOf (List.toArray [.int n0 u0, .int n1 u1, .int n2 u2, .int n3 u3, .int n4 u4, .int n5 u5]) 0)), (L + 1 + 1 + 1, c1'), (L + 1 + 1, c2'), (L + 1, c3'), (53, tabObj #[]), (152, tabObj #[])] [x, y, z]) ?j1 ?j2 ?j3 ?j4 ?j5 ?j6 ?j7 ?j8 ?j9 ?j10 ?j11 ?j12)
    case j1 => intro i ys led s h tk q; exact q
    case j2 => exact rfl
    case j3 => with_unfolding_all rfl
    case j4 => with_unfolding_all rfl
    case j5 => decide
    case j6 => exact rfl
    case j7 => decide
    case j8 => exact rfl
    case j9 => with_unfolding_all rfl
    case j10 => with_unfolding_all rfl
    case j12 => intro _; exact rfl
    k_steps
    walk_at "nm"
    refine srcJ_tuple (fun i ys led s h tk q => q) rfl F' N' (.head _) (by rw [sizeLine_eq]; exact Nat.le_of_ble_eq_true rfl) ⟨rfl, bare0, (by repeat (first | exact List.forall_mem_nil _ | refine List.forall_mem_cons.mpr ⟨by k_mem, ?_⟩)), ⟨#[], by k_mem, .nil⟩, [], rfl, rfl, (fun q hq => nomatch hq), fun k q hq => by simp at hq⟩ ?step ?fin
    case step =>
      (try clear F')
      (try clear N')
      intro i v ys led s₁ C D I oI oC m₂ E' hi hv hJ hsrc hC' hx' F' N0 off ne
      obtain ⟨hi3, t, rfl⟩ := nums3 i hv
      refine gfold ?_
      intro G9
      obtain ⟨hos, hbare, hfix, ⟨ps, h84, hps⟩, js, hys, hjl, hjs, hjr⟩ := hJ
      k_unfold
      (try clear G9)
      have N' := cb_drop (news := (I, oI) :: (C, oC) :: (D, LCg.lst ys) :: (84, tabObj ps) :: _ :: ([(ld, (listOf (List.toArray [.int e0 d0, .int e2 d2, .int e4 d4]) nd)), (lw, (listOf (List.toArray [.str (S x) w0, .str (S y) w2, .str (S z) w4]) nw)), (ls, (W.listOf #[.str (S [a]) ta, .str (S [b]) tb] 0)), (ln, (listOf (List.toArray [.int n0 u0, .int n1 u1, .int n2 u2, .int n3 u3, .int n4 u4, .int n5 u5]) 0)), (L + 1 + 1 + 1, c1'), (L + 1 + 1, c2'), (L + 1, c3'), (53, tabObj #[]), (152, tabObj #[])] ++ js)) N0 (List.forall_mem_cons.mpr ⟨.head _, List.forall_mem_cons.mpr ⟨.tail _ (.head _), List.forall_mem_cons.mpr ⟨.tail _ (.tail _ (.head _)), List.forall_mem_cons.mpr ⟨.tail _ (.tail _ (.tail _ h84)), List.forall_mem_cons.mpr ⟨.tail _ (.tail _ (.tail _ hsrc)), fun p hp => .tail _ (.tail _ (.tail _ ((List.mem_append.mp hp).elim (hfix p) fun q => (hjs p q).1)))⟩⟩⟩⟩⟩)
      (try clear N0)
      simp only [List.cons_append, List.nil_append] at N'
      k_steps
      unfold Hold
      walk_at "nm"
      refine r_lslice (vs := [.str (S x) w0, .str (S y) w2, .str (S z) w4]) F' N' (by k_mem) .none (.int _ _) (by simp) (cut_up i hi3) ?_
      intro lx h' F' N' l1
      (try k_lt l1)
      k_steps
      unfold Hold
      walk_at "nm"
      with_unfolding_all refine' C_pat (ws := [x, y, z].take (i + 1)) (vs := ([.str (S x) w0, .str (S y) w2, .str (S z) w4] : List Value).take (i + 1)) (ds := [.int e0 d0, .int e2 d2, .int e4 d4]) (ns := [e0, e2, e4]) (am := ?am6) (hdp := ?hdp6) (hvs := strs3 i hi3) (hds := .cons _ _ (.cons _ _ (.cons _ _ .nil))) (hlen := ?le6) (h3 := ?l36) (hn := hd4) (hw := ?hw6) (hlw := ?lw6) (hld := ?ld6) (hret := ?hr6)
      case am6 => exact ⟨⟨_, B'⟩, F', X', N', ⟨_, _, _, _, _, T'⟩, rfl, rfl⟩
      case hdp6 => decide
      case le6 => rw [List.length_take]; exact Nat.min_le_right _ _
      case l36 => rw [List.length_take]; exact Nat.min_le_right _ _
      case hw6 =>
        intro q hq
        have hq := List.mem_of_mem_take hq
        simp only [List.mem_cons, List.not_mem_nil, or_false] at hq
        rcases hq with rfl | rfl | rfl
        · exact hx
        · exact hy
        · exact hz
      case lw6 => k_mem
      case ld6 => k_mem
      case hr6 =>
      intro dw t5 h5 tk5 k5 okd hwd
      have F5 := backF F' k5
      have N5 := backN N' k5
      (try clear F')
      (try clear N')
      have F' := F5
      have N' := N5
      (try clear F5)
      (try clear N5)
      have hdl := dw_len hwd
      rw [List.length_take] at hdl
      have hdl3 : dw.length ≤ 3 := by rw [hdl]; exact Nat.min_le_right _ _
      have hf1 := flat_tsD okd
      have hf2 := out_tsD okd
      k_steps
      unfold Hold
      walk_at "nm"
      with_unfolding_all refine' C_rows (ts := tsD dw) (gs := gsD dw) (its := itsD dw) (pat := flat (tsD dw)) (ps := ps) (am := ?am7) (hdp := ?hdp7) (hpat := rfl) (hlen := ?le7) (hts := ok_tsD okd) (hadj := (adj_tsD okd).at) (hgs := parts_tsD okd) (hne := gsD_ne okd) (hfl := ?fl7) (bare := ?bare7) (hit := reL_itsD dw) (hok := ok_itsD okd) (hmk := hmk_itsD dw) (hfin := fin_itsD dw) (hC := hC88) (hm := ?hm7) (hps := hps) (hret := ?hr7)
      case am7 => exact ⟨⟨_, B'⟩, F', X', N', ⟨_, _, _, _, _, T'⟩, rfl, rfl⟩
      case hdp7 => decide
      case le7 => exact Nat.le_trans hf1 (Nat.le_trans (Nat.add_le_add_left (Nat.mul_le_mul_left 7 hdl3) 1) (by decide))
      case fl7 => exact Nat.le_trans hf2 (Nat.le_trans (Nat.mul_le_mul_left 15 hdl3) (by decide))
      case bare7 => exact hbare
      case hm7 => k_mem
      case hr7 =>
      intro l vs n ps' s' e1 e2 e3 e4 e5 e6 e7 e8
      rw [runR_itsD, hwd] at e8
      (try k_unmd)
      k_unfold
      (try dsimp only)
      refine' judge_step (js := js) (ps := ps) F' ?N7 off hsrc hfix ⟨_, h84⟩ hjs ?f84 ?t84 hys hjl hjr (e1.trans hos) e2 e3 e4 e5 e6 e7 e8
      case N7 => exact cb_drop N' (fun p hp => .tail _ hp)
      case f84 => repeat (first | exact List.forall_mem_nil _ | refine List.forall_mem_cons.mpr ⟨by k_ne, ?_⟩)
      case t84 => k_ne
    case fin =>
      (try clear F')
      (try clear N')
      intro ys led s₁ hJ D h' tk F' N' o1
      refine gfold ?_
      intro G9
      obtain ⟨hos, hbare, hfix, ps, j1, j2, j3, vs1, vs2, vs3, k1, k2, k3, h84, eq0, hj1, hj2, hj3, hv1, hv2, hv3⟩ := JL.fin hJ
      k_unfold
      (try clear G9)
      subst eq0
      refine CE12.mk _ D j1 j2 j3 vs1 vs2 vs3 k1 k2 k3 ps ⟨hos, hbare, hv1, hv2, hv3, F', ?_⟩
      have hfx : ∀ p ∈ [(ld, (listOf (List.toArray [.int e0 d0, .int e2 d2, .int e4 d4]) nd)), (lw, (listOf (List.toArray [.str (S x) w0, .str (S y) w2, .str (S z) w4]) nw)), (ls, (W.listOf #[.str (S [a]) ta, .str (S [b]) tb] 0)), (ln, (listOf (List.toArray [.int n0 u0, .int n1 u1, .int n2 u2, .int n3 u3, .int n4 u4, .int n5 u5]) 0)), (L + 1 + 1 + 1, c1'), (L + 1 + 1, c2'), (L + 1, c3'), (53, tabObj #[]), (152, tabObj #[])], p ∈ (D, LCg.lst [.ref j1, .ref j2, .ref j3]) :: led := fun p hp => List.mem_cons_of_mem _ (hfix p hp)
      simp only [List.forall_mem_cons, List.not_mem_nil, false_implies, implies_true, and_true] at hfx
      refine gfold ?_
      intro G9
      obtain ⟨f1, f2, f3, f4, f5, f6, f7, f8, f9⟩ := hfx
      k_unfold
      (try clear G9)
      exact cb_drop N' (List.forall_mem_cons.mpr ⟨.head _, List.forall_mem_cons.mpr ⟨.tail _ hj1, List.forall_mem_cons.mpr ⟨.tail _ hj2, List.forall_mem_cons.mpr ⟨.tail _ hj3, List.forall_mem_cons.mpr ⟨f2, List.forall_mem_cons.mpr ⟨f3, List.forall_mem_cons.mpr ⟨f4, List.forall_mem_cons.mpr ⟨f6, List.forall_mem_cons.mpr ⟨f7, List.forall_mem_cons.mpr ⟨f8, List.forall_mem_cons.mpr ⟨f9, List.forall_mem_cons.mpr ⟨.tail _ h84, List.forall_mem_nil _⟩⟩⟩⟩⟩⟩⟩⟩⟩⟩⟩⟩)
  case B6 =>
  (try clear F')
  (try clear N')
  intro s6 lj j1 j2 j3 vs1 vs2 vs3 k1 k2 k3 ps hP9
  refine gfold ?_
  intro G9
  obtain ⟨hos, hbare, hv1, hv2, hv3, F', N'⟩ := hP9
  k_unfold
  (try clear G9)
  obtain ⟨a1, a2, a3, rfl⟩ := strs_3 hv1
  refine gfold ?_
  intro G9
  obtain ⟨b1, b2, b3, b4, eq0⟩ := strs_4 hv2
  k_unfold
  (try clear G9)
  subst eq0
  refine gfold ?_
  intro G9
  obtain ⟨g1, g2, g3, g4, g5, eq0⟩ := strs_5 hv3
  k_unfold
  (try clear G9)
  subst eq0
  (try clear hv1)
  (try clear hv2)
  (try clear hv3)
  as_aux_lemma =>
  (try revert N')
  (try revert F')
  (try revert hbare)
  (try revert hos)
  (try revert hz)
  (try revert hy)
  (try revert hx)
  (try revert e2')
  (try revert e3')
  (try revert hb)
  (try revert ha)
  (try revert hnb)
  (try revert stp)
  (try revert hC156)
  (try revert hC57)
  (try revert B')
  (try revert T')
  (try revert X')
  (repeat ((rename (_ : Prop) => z9); clear z9))
  revert w s₀ s₁ mg mb fa cd ns base L ln n0 n1 n2 n3 n4 n5 u0 u1 u2 u3 u4 u5 ls ta tb a b c3' lw w0 w2 w4 nw c2' m1 x y z s6 lj j1 j2 j3 k1 k2 k3 ps a1 a2 a3 b1 b2 b3 b4 g1 g2 g3 g4 g5
  (refine no_implicit_lambda% (close60 36263 ?ne_B6 (R := ?R_B6) ((?nw_B6 : ∀ w s₀ s₁ mg mb fa cd ns base L ln n0 n1 n2 n3 n4 n5 u0 u1 u2 u3 u4 u5 ls ta tb a b c3' lw w0 w2 w4 nw c2' m1 x y z s6 lj j1 j2 j3 k1 k2 k3 ps a1 a2 a3 b1 b2 b3 b4 g1 g2 g3 g4 g5, ?R_B6 w s₀ s₁ mg mb fa cd ns base L ln n0 n1 n2 n3 n4 n5 u0 u1 u2 u3 u4 u5 ls ta tb a b c3' lw w0 w2 w4 nw c2' m1 x y z s6 lj j1 j2 j3 k1 k2 k3 ps a1 a2 a3 b1 b2 b3 b4 g1 g2 g3 g4 g5) (Mine.cl 36263 ?ne_B6 (un60 ?R_B6)).1.1.1.1.1.1 (Mine.cl 36263 ?ne_B6 (un60 ?R_B6)).1.1.1.1.1.2 (Mine.cl 36263 ?ne_B6 (un60 ?R_B6)).1.1.1.1.2.1 (Mine.cl 36263 ?ne_B6 (un60 ?R_B6)).1.1.1.1.2.2 (Mine.cl 36263 ?ne_B6 (un60 ?R_B6)).1.1.1.2.1.1 (Mine.cl 36263 ?ne_B6 (un60 ?R_B6)).1.1.1.2.1.2 (Mine.cl 36263 ?ne_B6 (un60 ?R_B6)).1.1.1.2.2.1 (Mine.cl 36263 ?ne_B6 (un60 ?R_B6)).1.1.1.2.2.2 (Mine.cl 36263 ?ne_B6 (un60 ?R_B6)).1.1.2.1.1.1 (Mine.cl 36263 ?ne_B6 (un60 ?R_B6)).1.1.2.1.1.2 (Mine.cl 36263 ?ne_B6 (un60 ?R_B6)).1.1.2.1.2.1 (Mine.cl 36263 ?ne_B6 (un60 ?R_B6)).1.1.2.1.2.2 (Mine.cl 36263 ?ne_B6 (un60 ?R_B6)).1.1.2.2.1.1 (Mine.cl 36263 ?ne_B6 (un60 ?R_B6)).1.1.2.2.1.2 (Mine.cl 36263 ?ne_B6 (un60 ?R_B6)).1.1.2.2.2 (Mine.cl 36263 ?ne_B6 (un60 ?R_B6)).1.2.1.1.1.1 (Mine.cl 36263 ?ne_B6 (un60 ?R_B6)).1.2.1.1.1.2 (Mine.cl 36263 ?ne_B6 (un60 ?R_B6)).1.2.1.1.2.1 (Mine.cl 36263 ?ne_B6 (un60 ?R_B6)).1.2.1.1.2.2 (Mine.cl 36263 ?ne_B6 (un60 ?R_B6)).1.2.1.2.1.1 (Mine.cl 36263 ?ne_B6 (un60 ?R_B6)).1.2.1.2.1.2 (Mine.cl 36263 ?ne_B6 (un60 ?R_B6)).1.2.1.2.2.1 (Mine.cl 36263 ?ne_B6 (un60 ?R_B6)).1.2.1.2.2.2 (Mine.cl 36263 ?ne_B6 (un60 ?R_B6)).1.2.2.1.1.1 (Mine.cl 36263 ?ne_B6 (un60 ?R_B6)).1.2.2.1.1.2 (Mine.cl 36263 ?ne_B6 (un60 ?R_B6)).1.2.2.1.2.1 (Mine.cl 36263 ?ne_B6 (un60 ?R_B6)).1.2.2.1.2.2 (Mine.cl 36263 ?ne_B6 (un60 ?R_B6)).1.2.2.2.1.1 (Mine.cl 36263 ?ne_B6 (un60 ?R_B6)).1.2.2.2.1.2 (Mine.cl 36263 ?ne_B6 (un60 ?R_B6)).1.2.2.2.2 (Mine.cl 36263 ?ne_B6 (un60 ?R_B6)).2.1.1.1.1.1 (Mine.cl 36263 ?ne_B6 (un60 ?R_B6)).2.1.1.1.1.2 (Mine.cl 36263 ?ne_B6 (un60 ?R_B6)).2.1.1.1.2.1 (Mine.cl 36263 ?ne_B6 (un60 ?R_B6)).2.1.1.1.2.2 (Mine.cl 36263 ?ne_B6 (un60 ?R_B6)).2.1.1.2.1.1 (Mine.cl 36263 ?ne_B6 (un60 ?R_B6)).2.1.1.2.1.2 (Mine.cl 36263 ?ne_B6 (un60 ?R_B6)).2.1.1.2.2.1 (Mine.cl 36263 ?ne_B6 (un60 ?R_B6)).2.1.1.2.2.2 (Mine.cl 36263 ?ne_B6 (un60 ?R_B6)).2.1.2.1.1.1 (Mine.cl 36263 ?ne_B6 (un60 ?R_B6)).2.1.2.1.1.2 (Mine.cl 36263 ?ne_B6 (un60 ?R_B6)).2.1.2.1.2.1 (Mine.cl 36263 ?ne_B6 (un60 ?R_B6)).2.1.2.1.2.2 (Mine.cl 36263 ?ne_B6 (un60 ?R_B6)).2.1.2.2.1.1 (Mine.cl 36263 ?ne_B6 (un60 ?R_B6)).2.1.2.2.1.2 (Mine.cl 36263 ?ne_B6 (un60 ?R_B6)).2.1.2.2.2 (Mine.cl 36263 ?ne_B6 (un60 ?R_B6)).2.2.1.1.1.1 (Mine.cl 36263 ?ne_B6 (un60 ?R_B6)).2.2.1.1.1.2 (Mine.cl 36263 ?ne_B6 (un60 ?R_B6)).2.2.1.1.2.1 (Mine.cl 36263 ?ne_B6 (un60 ?R_B6)).2.2.1.1.2.2 (Mine.cl 36263 ?ne_B6 (un60 ?R_B6)).2.2.1.2.1.1 (Mine.cl 36263 ?ne_B6 (un60 ?R_B6)).2.2.1.2.1.2 (Mine.cl 36263 ?ne_B6 (un60 ?R_B6)).2.2.1.2.2.1 (Mine.cl 36263 ?ne_B6 (un60 ?R_B6)).2.2.1.2.2.2 (Mine.cl 36263 ?ne_B6 (un60 ?R_B6)).2.2.2.1.1.1 (Mine.cl 36263 ?ne_B6 (un60 ?R_B6)).2.2.2.1.1.2 (Mine.cl 36263 ?ne_B6 (un60 ?R_B6)).2.2.2.1.2.1 (Mine.cl 36263 ?ne_B6 (un60 ?R_B6)).2.2.2.1.2.2 (Mine.cl 36263 ?ne_B6 (un60 ?R_B6)).2.2.2.2.1.1 (Mine.cl 36263 ?ne_B6 (un60 ?R_B6)).2.2.2.2.1.2 (Mine.cl 36263 ?ne_B6 (un60 ?R_B6)).2.2.2.2.2)))
  (case ne_B6 => repeat (first | exact ⟨default⟩ | exact neS | exact neW | exact neA | refine ne2 ?_ ?_))
  intro w s₀ s₁ mg mb fa cd ns base L ln n0 n1 n2 n3 n4 n5 u0 u1 u2 u3 u4 u5 ls ta tb a b c3' lw w0 w2 w4 nw c2' m1 x y z s6 lj j1 j2 j3 k1 k2 k3 ps a1 a2 a3 b1 b2 b3 b4 g1 g2 g3 g4 g5
  (set_option tactic.hygienic false in intros)
  have mk9 : Clm := ⟨trivial⟩
  k_steps
  unfold Hold
  (with_reducible refine' cutE2 (Value.bool false) ?S7 ?P7 ?A7 ?B7)
  (case S7 => exact (fun (s₂ : Shared) (m1 : Str → Option Value) => s₂))
  (case P7 => exact (fun (s₂ : Shared) (m1 : Str → Option Value) => s₂.os = s₁.os ∧ AllBare s₂.gens ∧ Fr base L s₂.heap (fun q => if q = Str.ofString "judges" then some (.ref lj) else if q = Str.ofString "numbers" then some (.ref ln) else m1 q) ∧ News base L s₂.heap [(lj, (LCg.lst [.ref j1, .ref j2, .ref j3])), (j1, (listOf (List.toArray [.str (S []) a1, .str (S x) a2, .str (S []) a3]) k1)), (j2, (listOf (List.toArray [.str (S []) b1, .str (S x) b2, .str (S y) b3, .str (S []) b4]) k2)), (j3, (listOf (List.toArray [.str (S []) g1, .str (S x) g2, .str (S y) g3, .str (S z) g4, .str (S []) g5]) k3)), (lw, (listOf (List.toArray [.str (S x) w0, .str (S y) w2, .str (S z) w4]) nw)), (ls, (W.listOf #[.str (S [a]) ta, .str (S [b]) tb] 0)), (ln, (listOf (List.toArray [.int n0 u0, .int n1 u1, .int n2 u2, .int n3 u3, .int n4 u4, .int n5 u5]) 0)), (L + 1 + 1, c2'), (L + 1, c3'), (53, tabObj #[]), (152, tabObj #[]), (84, tabObj ps)]))
  case A7 =>
    walk_at "nm"
    refine r_inlists N' (.head _) (by k_mem) (by k_mem) (by k_mem) (by k_mem) (by simp) (by simp) (by simp) (show _ < _ from Nat.le_of_ble_eq_true (by with_unfolding_all rfl)) ?_
    exact CE2.mk _ _ ⟨hos, hbare, F', cb_drop N' (by repeat (first | exact List.forall_mem_nil _ | refine List.forall_mem_cons.mpr ⟨by k_mem, ?_⟩))⟩
  case B7 =>
  walk_at "nm"
  (try clear F')
  (try clear N')
  (try clear hos)
  (try clear hbare)
  intro s7 m1 hP9
  refine gfold ?_
  intro G9
  obtain ⟨hos, hbare, F', N'⟩ := hP9
  k_unfold
  (try clear G9)
  (try revert N')
  (try revert F')
  (try revert hbare)
  (try revert hos)
  (repeat ((rename (_ : Prop) => z9); (fail_if_success (have : Clm := z9)); revert z9))
  revert s7 m1
  (refine no_implicit_lambda% (close2 62190 ?ne_8 (R := ?R_8) ((?nw_8 : ∀ s7 m1, ?R_8 s7 m1) (Mine.cl 62190 ?ne_8 (un2 ?R_8)).1 (Mine.cl 62190 ?ne_8 (un2 ?R_8)).2)))
  (case ne_8 => repeat (first | exact ⟨default⟩ | exact neS | exact neW | exact neA | refine ne2 ?_ ?_))
  intro s7 m1
  (set_option tactic.hygienic false in intros)
  have mk9 : Clm := ⟨trivial⟩
  k_steps
  unfold Hold
  (with_reducible refine' cutE4 Flow.next ?S8 ?P8 ?A8 ?B8)
  (case S8 => exact (fun (s₂ : Shared) (r : List Nat) (tr : Tok) (m1 : Str → Option Value) => s₂))
  (case P8 => exact (fun (s₂ : Shared) (r : List Nat) (tr : Tok) (m1 : Str → Option Value) => r.length ≤ 12 ∧ (∀ c ∈ r, c = a ∨ c = b ∨ c = 35) ∧ s₂.os = s₁.os ∧ AllBare s₂.gens ∧ Fr base L s₂.heap (fun q => if q = Str.ofString "straight" then some (.str (S r) tr) else if q = Str.ofString "judges" then some (.ref lj) else m1 q) ∧ News base L s₂.heap [(lj, (LCg.lst [.ref j1, .ref j2, .ref j3])), (j1, (listOf (List.toArray [.str (S []) a1, .str (S x) a2, .str (S []) a3]) k1)), (j2, (listOf (List.toArray [.str (S []) b1, .str (S x) b2, .str (S y) b3, .str (S []) b4]) k2)), (j3, (listOf (List.toArray [.str (S []) g1, .str (S x) g2, .str (S y) g3, .str (S z) g4, .str (S []) g5]) k3)), (lw, (listOf (List.toArray [.str (S x) w0, .str (S y) w2, .str (S z) w4]) nw)), (L + 1 + 1, c2'), (53, tabObj #[]), (152, tabObj #[]), (84, tabObj ps)]))
  case A8 =>
    (try clear stp)
    k_steps
    unfold Hold
    walk_at "nm"
    with_unfolding_all refine' C_row (am := ?am8) (hdp := ?hdp8) (hn := hnb) (hln := ?ln8) (hls := ?ls8) (hret := ?hr8)
    case am8 => exact ⟨⟨_, B'⟩, F', X', N', ⟨_, _, _, _, _, T'⟩, rfl, rfl⟩
    case hdp8 => decide
    case ln8 => k_mem
    case ls8 => k_mem
    case hr8 =>
    intro r tr h5 tk5 k5 hr12 hrc
    have F5 := backF F' k5
    have N5 := backN N' k5
    (try clear F')
    (try clear N')
    have F' := F5
    have N' := N5
    (try clear F5)
    (try clear N5)
    k_steps
    walk_at "nm"
    exact CE4.mk _ r tr _ ⟨hr12, hrc, hos, hbare, F', cb_drop N' (by repeat (first | exact List.forall_mem_nil _ | refine List.forall_mem_cons.mpr ⟨by k_mem, ?_⟩))⟩
  case B8 =>
  walk_at "nm"
  (try clear F')
  (try clear N')
  (try clear hos)
  (try clear hbare)
  intro s8 r tr m1 hP9
  refine gfold ?_
  intro G9
  obtain ⟨hr12, hrc, hos, hbare, F', N'⟩ := hP9
  k_unfold
  (try clear G9)
  (try revert N')
  (try revert F')
  (try revert hbare)
  (try revert hos)
  (try revert hrc)
  (try revert hr12)
  (repeat ((rename (_ : Prop) => z9); (fail_if_success (have : Clm := z9)); revert z9))
  revert s8 r tr m1
  (refine no_implicit_lambda% (close4 53442 ?ne_9 (R := ?R_9) ((?nw_9 : ∀ s8 r tr m1, ?R_9 s8 r tr m1) (Mine.cl 53442 ?ne_9 (un4 ?R_9)).1.1 (Mine.cl 53442 ?ne_9 (un4 ?R_9)).1.2 (Mine.cl 53442 ?ne_9 (un4 ?R_9)).2.1 (Mine.cl 53442 ?ne_9 (un4 ?R_9)).2.2)))
  (case ne_9 => repeat (first | exact ⟨default⟩ | exact neS | exact neW | exact neA | refine ne2 ?_ ?_))
  intro s8 r tr m1
  (set_option tactic.hygienic false in intros)
  have mk9 : Clm := ⟨trivial⟩
  have no35 : ∀ q ∈ [x, y, z], q ≠ [] ∧ 35 ∉ q := List.forall_mem_cons.mpr ⟨⟨hx.1, fun h => stock35.1 (hx.2.2 _ h)⟩, List.forall_mem_cons.mpr ⟨⟨hy.1, fun h => stock35.1 (hy.2.2 _ h)⟩, List.forall_mem_cons.mpr ⟨⟨hz.1, fun h => stock35.1 (hz.2.2 _ h)⟩, List.forall_mem_nil _⟩⟩⟩
  have hwx := repr_word hx
  have hwy := repr_word hy
  have hwz := repr_word hz
  k_steps
  unfold Hold
  (with_reducible refine' cutE2 Flow.next ?S9 ?P9 ?A9 ?B9)
  (case S9 => exact (fun (s₂ : Shared) (m1 : Str → Option Value) => s₂))
  (case P9 => exact (fun (s₂ : Shared) (m1 : Str → Option Value) => s₂.os = s₁.os ∧ AllBare s₂.gens ∧ GrownAll [(57, 53), (156, 152), (88, 84)] s₂.heap ∧ Fr base L s₂.heap m1 ∧ News base L s₂.heap [(L + 1 + 1, c2')]))
  case A9 =>
    walk_at "nm"
    have off53 : ∀ p ∈ [(lj, (LCg.lst [.ref j1, .ref j2, .ref j3])), (j1, (listOf (List.toArray [.str (S []) a1, .str (S x) a2, .str (S []) a3]) k1)), (j2, (listOf (List.toArray [.str (S []) b1, .str (S x) b2, .str (S y) b3, .str (S []) b4]) k2)), (j3, (listOf (List.toArray [.str (S []) g1, .str (S x) g2, .str (S y) g3, .str (S z) g4, .str (S []) g5]) k3)), (lw, (listOf (List.toArray [.str (S x) w0, .str (S y) w2, .str (S z) w4]) nw)), (L + 1 + 1, c2'), (84, tabObj ps)], p.1 ≠ 53 ∧ p.1 ≠ 152 := by
      refine List.forall_mem_cons.mpr ⟨⟨list_off N' (.head _) (by k_mem), list_off N' (.head _) (by k_mem)⟩, ?_⟩
      refine List.forall_mem_cons.mpr ⟨⟨list_off N' (.tail _ (.head _)) (by k_mem), list_off N' (.tail _ (.head _)) (by k_mem)⟩, ?_⟩
      refine List.forall_mem_cons.mpr ⟨⟨list_off N' (.tail _ (.tail _ (.head _))) (by k_mem), list_off N' (.tail _ (.tail _ (.head _))) (by k_mem)⟩, ?_⟩
      refine List.forall_mem_cons.mpr ⟨⟨list_off N' (.tail _ (.tail _ (.tail _ (.head _)))) (by k_mem), list_off N' (.tail _ (.tail _ (.tail _ (.head _)))) (by k_mem)⟩, ?_⟩
      refine List.forall_mem_cons.mpr ⟨⟨list_off N' (.tail _ (.tail _ (.tail _ (.tail _ (.head _))))) (by k_mem), list_off N' (.tail _ (.tail _ (.tail _ (.tail _ (.head _))))) (by k_mem)⟩, ?_⟩
      refine List.forall_mem_cons.mpr ⟨⟨cell_off N' (.tail _ (.tail _ (.tail _ (.tail _ (.tail _ (.head _)))))) e2' (by k_mem), cell_off N' (.tail _ (.tail _ (.tail _ (.tail _ (.tail _ (.head _)))))) e2' (by k_mem)⟩, ?_⟩
      exact List.forall_mem_cons.mpr ⟨⟨(show (84 : Addr) ≠ 53 by decide), (show (84 : Addr) ≠ 152 by decide)⟩, List.forall_mem_nil _⟩
    refine wpAny_For ?_
    k_steps
    walk_at "nm"
    rw [S_rev] at N'
    have key9 : ∀ {t : Addr} {k : Tok} {h9 : Heap} {rest : List (Addr × Obj)}, News base L h9 ((t, tupO #[Value.str (S r) tr, Value.str (S r.reverse) k]) :: rest) → ∃ (t' : Addr) (k' : Tok), t' = t ∧ k' = k := fun {t k _ _} _ => ⟨t, k, rfl, rfl⟩
    obtain ⟨t9, tq9, x1, x2⟩ := key9 N'
    subst x1
    subst x2
    (try clear key9)
    have hrr : ∀ c ∈ r.reverse, c = a ∨ c = b ∨ c = 35 := fun c hc => hrc c (List.mem_reverse.mp hc)
    have hr12' : r.reverse.length ≤ 12 := by rw [List.length_reverse]; exact hr12
    with_unfolding_all
      refine forTup rfl F' (cb_drop (news := _ :: ([(lj, (LCg.lst [.ref j1, .ref j2, .ref j3])), (j1, (listOf (List.toArray [.str (S []) a1, .str (S x) a2, .str (S []) a3]) k1)), (j2, (listOf (List.toArray [.str (S []) b1, .str (S x) b2, .str (S y) b3, .str (S []) b4]) k2)), (j3, (listOf (List.toArray [.str (S []) g1, .str (S x) g2, .str (S y) g3, .str (S z) g4, .str (S []) g5]) k3)), (lw, (listOf (List.toArray [.str (S x) w0, .str (S y) w2, .str (S z) w4]) nw)), (L + 1 + 1, c2'), (84, tabObj ps)] ++ tab4 (tabObj #[]) 53 (tabObj #[]) (tabObj #[]) 152 (tabObj #[]))) N' (List.forall_mem_cons.mpr ⟨.head _, ?sub0⟩)) (GL s₁.os [(lj, (LCg.lst [.ref j1, .ref j2, .ref j3])), (j1, (listOf (List.toArray [.str (S []) a1, .str (S x) a2, .str (S []) a3]) k1)), (j2, (listOf (List.toArray [.str (S []) b1, .str (S x) b2, .str (S y) b3, .str (S []) b4]) k2)), (j3, (listOf (List.toArray [.str (S []) g1, .str (S x) g2, .str (S y) g3, .str (S z) g4, .str (S []) g5]) k3)), (lw, (listOf (List.toArray [.str (S x) w0, .str (S y) w2, .str (S z) w4]) nw)), (L + 1 + 1, c2'), (84, tabObj ps)] [(Str.ofString "judges", Value.ref lj)]) (fun i m nw s h tk q => q) ⟨hos, hbare, ?nm0, _, _, _, _, _, _, rfl, .inl ⟨rfl, rfl, rfl⟩, .inl ⟨rfl, rfl, rfl⟩⟩ ?step ?done ?hE
    case sub0 => repeat (first | exact List.forall_mem_nil _ | refine List.forall_mem_cons.mpr ⟨by k_mem, ?_⟩)
    case nm0 => exact List.forall_mem_cons.mpr ⟨rfl, List.forall_mem_nil _⟩
    case hE => exact PassesOwn.never
    case done =>
      (try clear F')
      (try clear N')
      (try clear hos)
      (try clear hbare)
      intro m₁ nw1 s5 hP9
      refine gfold ?_
      intro G9
      obtain ⟨hos, hbare, hnm, o, c', oc, o9, c9, oc9, eq0, hT, hT9⟩ := hP9
      k_unfold
      (try clear G9)
      subst eq0
      intro F' N'
      obtain ⟨p1, rfl⟩ := tabs_grown hT
      obtain ⟨p2, rfl⟩ := tabs_grown hT9
      exact CE2.mk _ _ ⟨hos, hbare, ⟨⟨_, (N' (53, tabObj p1) (by k_mem)).1⟩, ⟨_, (N' (152, tabObj p2) (by k_mem)).1⟩, ⟨_, (N' (84, tabObj ps) (by k_mem)).1⟩, trivial⟩, F', cb_drop N' (by repeat (first | exact List.forall_mem_nil _ | refine List.forall_mem_cons.mpr ⟨by k_mem, ?_⟩))⟩
    case step =>
      (try clear F')
      (try clear N')
      (try clear hos)
      (try clear hbare)
      intro i v I oI m₁ nw1 s5 hi hv hg5 F₁ N₁ off hI
      refine gfold ?_
      intro G9
      obtain ⟨hos, hbare, hnm, o, c', oc, o9, c9, oc9, eq0, hT, hT9⟩ := hg5
      k_unfold
      (try clear G9)
      subst eq0
      obtain ⟨q, tq, rfl, hq12, hqc⟩ : ∃ q tq, v = .str (S q) tq ∧ q.length ≤ 12 ∧ ∀ c ∈ q, c = a ∨ c = b ∨ c = 35 := two_strs (P := fun v => ∃ q tq, v = .str (S q) tq ∧ q.length ≤ 12 ∧ ∀ c ∈ q, c = a ∨ c = b ∨ c = 35) ⟨_, _, rfl, hr12, hrc⟩ ⟨_, _, rfl, hr12', hrr⟩ i hv
      have no10 : 10 ∉ q := fun h => by
        rcases hqc 10 h with e | e | e
        · rw [← e] at ha; exact stock35.2 ha
        · rw [← e] at hb; exact stock35.2 hb
        · cases e
      obtain ⟨m0, F'⟩ := fr_one F₁ (hnm _ (.head _))
      dsimp only at F'
      have N' := N₁
      (try clear F₁)
      (try clear N₁)
      simp only [List.cons_append, List.nil_append] at N'
      k_steps
      unfold Hold
      walk_at "nm"
      refine wpAny_For ?_
      k_steps
      walk_at "nm"
      have nmI : ∀ p ∈ (I, oI) :: (t9, tupO #[Value.str (S r) tr, .str (S r.reverse) tq9]) :: [(lj, (LCg.lst [.ref j1, .ref j2, .ref j3])), (j1, (listOf (List.toArray [.str (S []) a1, .str (S x) a2, .str (S []) a3]) k1)), (j2, (listOf (List.toArray [.str (S []) b1, .str (S x) b2, .str (S y) b3, .str (S []) b4]) k2)), (j3, (listOf (List.toArray [.str (S []) g1, .str (S x) g2, .str (S y) g3, .str (S z) g4, .str (S []) g5]) k3)), (lw, (listOf (List.toArray [.str (S x) w0, .str (S y) w2, .str (S z) w4]) nw)), (L + 1 + 1, c2'), (84, tabObj ps)], p.1 ≠ 53 ∧ p.1 ≠ 152 := List.forall_mem_cons.mpr ⟨⟨Ne.symm (off (53, o) (.tail _ (List.mem_append_right _ (.head _)))), Ne.symm (off (152, o9) (.tail _ (List.mem_append_right _ (.tail _ (.tail _ (.head _))))))⟩, List.forall_mem_cons.mpr ⟨⟨Ne.symm (by k_ne), Ne.symm (by k_ne)⟩, off53⟩⟩
      have key9 : ∀ {t : Addr} {h9 : Heap} {rest : List (Addr × Obj)}, News base L h9 ((t, tupO #[Value.bool true, .bool false]) :: rest) → ∃ (t' : Addr), t' = t := fun {t _ _} _ => ⟨t, rfl⟩
      obtain ⟨t2, x1⟩ := key9 N'
      subst x1
      (try clear key9)
      have nmt : t2 ≠ 53 ∧ t2 ≠ 152 := ⟨Ne.symm (by k_ne), Ne.symm (by k_ne)⟩
      have offk : ∀ p ∈ (t9, tupO #[Value.str (S r) tr, .str (S r.reverse) tq9]) :: [(lj, (LCg.lst [.ref j1, .ref j2, .ref j3])), (j1, (listOf (List.toArray [.str (S []) a1, .str (S x) a2, .str (S []) a3]) k1)), (j2, (listOf (List.toArray [.str (S []) b1, .str (S x) b2, .str (S y) b3, .str (S []) b4]) k2)), (j3, (listOf (List.toArray [.str (S []) g1, .str (S x) g2, .str (S y) g3, .str (S z) g4, .str (S []) g5]) k3)), (lw, (listOf (List.toArray [.str (S x) w0, .str (S y) w2, .str (S z) w4]) nw)), (L + 1 + 1, c2'), (84, tabObj ps)], p.1 ≠ I := fun p hp => off p (List.mem_append_left _ hp)
      (try clear off)
      with_unfolding_all
        refine forTup rfl F' (cb_drop (news := _ :: ([(I, oI), (t9, tupO #[Value.str (S r) tr, .str (S r.reverse) tq9]), (lj, (LCg.lst [.ref j1, .ref j2, .ref j3])), (j1, (listOf (List.toArray [.str (S []) a1, .str (S x) a2, .str (S []) a3]) k1)), (j2, (listOf (List.toArray [.str (S []) b1, .str (S x) b2, .str (S y) b3, .str (S []) b4]) k2)), (j3, (listOf (List.toArray [.str (S []) g1, .str (S x) g2, .str (S y) g3, .str (S z) g4, .str (S []) g5]) k3)), (lw, (listOf (List.toArray [.str (S x) w0, .str (S y) w2, .str (S z) w4]) nw)), (L + 1 + 1, c2'), (84, tabObj ps)] ++ tab4 o c' oc o9 c9 oc9)) N' (List.forall_mem_cons.mpr ⟨.head _, ?sub1⟩)) (GL s₁.os [(I, oI), (t9, tupO #[Value.str (S r) tr, .str (S r.reverse) tq9]), (lj, (LCg.lst [.ref j1, .ref j2, .ref j3])), (j1, (listOf (List.toArray [.str (S []) a1, .str (S x) a2, .str (S []) a3]) k1)), (j2, (listOf (List.toArray [.str (S []) b1, .str (S x) b2, .str (S y) b3, .str (S []) b4]) k2)), (j3, (listOf (List.toArray [.str (S []) g1, .str (S x) g2, .str (S y) g3, .str (S z) g4, .str (S []) g5]) k3)), (lw, (listOf (List.toArray [.str (S x) w0, .str (S y) w2, .str (S z) w4]) nw)), (L + 1 + 1, c2'), (84, tabObj ps)] [(Str.ofString "row", Value.str (S q) tq), (Str.ofString "judges", Value.ref lj)]) (fun i m nw s h tk q => q) ⟨hos, hbare, ?nm1, _, _, _, _, _, _, rfl, hT, hT9⟩ ?step1 ?done1 ?hE1
      case sub1 => repeat (first | exact List.forall_mem_nil _ | refine List.forall_mem_cons.mpr ⟨by k_mem, ?_⟩)
      case nm1 => exact List.forall_mem_cons.mpr ⟨rfl, List.forall_mem_cons.mpr ⟨rfl, List.forall_mem_nil _⟩⟩
      case hE1 => exact PassesOwn.never
      case done1 =>
        (try clear F')
        (try clear N')
        (try clear hos)
        (try clear hbare)
        (try clear hT)
        (try clear hT9)
        intro m₁ nw1 s5 hP9
        refine gfold ?_
        intro G9
        obtain ⟨hos, hbare, hnm, o, c', oc, o9, c9, oc9, eq0, hT, hT9⟩ := hP9
        k_unfold
        (try clear G9)
        subst eq0
        intro F' N'
        dsimp only
        refine wpAny_execs_nil ?_
        refine Bx.mk ⟨_, [(lj, (LCg.lst [.ref j1, .ref j2, .ref j3])), (j1, (listOf (List.toArray [.str (S []) a1, .str (S x) a2, .str (S []) a3]) k1)), (j2, (listOf (List.toArray [.str (S []) b1, .str (S x) b2, .str (S y) b3, .str (S []) b4]) k2)), (j3, (listOf (List.toArray [.str (S []) g1, .str (S x) g2, .str (S y) g3, .str (S z) g4, .str (S []) g5]) k3)), (lw, (listOf (List.toArray [.str (S x) w0, .str (S y) w2, .str (S z) w4]) nw)), (L + 1 + 1, c2'), (84, tabObj ps)] ++ tab4 o c' oc o9 c9 oc9, ⟨hos, hbare, List.forall_mem_cons.mpr ⟨hnm _ (.tail _ (.head _)), List.forall_mem_nil _⟩, _, _, _, _, _, _, rfl, hT, hT9⟩, F', cb_drop N' (fun p hp => .tail _ hp), off_all (keep := (t9, tupO #[Value.str (S r) tr, .str (S r.reverse) tq9]) :: [(lj, (LCg.lst [.ref j1, .ref j2, .ref j3])), (j1, (listOf (List.toArray [.str (S []) a1, .str (S x) a2, .str (S []) a3]) k1)), (j2, (listOf (List.toArray [.str (S []) b1, .str (S x) b2, .str (S y) b3, .str (S []) b4]) k2)), (j3, (listOf (List.toArray [.str (S []) g1, .str (S x) g2, .str (S y) g3, .str (S z) g4, .str (S []) g5]) k3)), (lw, (listOf (List.toArray [.str (S x) w0, .str (S y) w2, .str (S z) w4]) nw)), (L + 1 + 1, c2'), (84, tabObj ps)]) N' (.tail _ (.head _)) (by repeat (first | exact List.forall_mem_nil _ | refine List.forall_mem_cons.mpr ⟨by k_mem, ?_⟩)) offk hI hT hT9⟩
      case step1 =>
        (try clear F')
        (try clear N')
        (try clear hos)
        (try clear hbare)
        (try clear hT)
        (try clear hT9)
        intro i v I2 oI2 m₁ nw1 s5 hi hv hg5 F₁ N₁ off2 hI2
        refine gfold ?_
        intro G9
        obtain ⟨hos, hbare, hnm, o, c', oc, o9, c9, oc9, eq0, hT, hT9⟩ := hg5
        k_unfold
        (try clear G9)
        subst eq0
        obtain ⟨strict, rfl⟩ : ∃ strict, v = .bool strict := two_strs (P := fun v => ∃ strict, v = .bool strict) ⟨_, rfl⟩ ⟨_, rfl⟩ i hv
        obtain ⟨m0, F'⟩ := fr_two F₁ (hnm _ (.head _)) (hnm _ (.tail _ (.head _)))
        dsimp only at F'
        have N' := N₁
        (try clear F₁)
        (try clear N₁)
        simp only [List.cons_append, List.nil_append] at N'
        k_steps
        unfold Hold
        walk_at "nm"
        with_unfolding_all refine' C_walk (r := q) (ws := [x, y, z]) (vs := [.str (S x) w0, .str (S y) w2, .str (S z) w4]) (strict := strict) (am := ?amw) (hdp := ?dpw) (hun := ?unw) (XB := X') (hTB := ⟨_, _, _, _, _, T'⟩) (hC57 := hC57) (hC156 := hC156) (hr := ?rw9) (h10 := ?h10) (hws := ?hws) (hvs := .cons _ _ (.cons _ _ (.cons _ _ .nil))) (hn := ?hn9) (hlw := ?lw9) (hm1 := ?m91) (hm2 := ?m92) (hT := hT) (hm3 := ?m93) (hm4 := ?m94) (hT9 := hT9) (hret := ?hr9)
        case amw => exact ⟨⟨_, B'⟩, F', X', N', ⟨_, _, _, _, _, T'⟩, rfl, rfl⟩
        case dpw => decide
        case unw => exact (show _ < _ from Nat.le_of_ble_eq_true (by with_unfolding_all rfl))
        case rw9 => exact Nat.le_trans hq12 (by decide)
        case h10 => exact no10
        case hws => exact List.forall_mem_cons.mpr ⟨⟨hx.1, hx.2.1, hwx⟩, List.forall_mem_cons.mpr ⟨⟨hy.1, hy.2.1, hwy⟩, List.forall_mem_cons.mpr ⟨⟨hz.1, hz.2.1, hwz⟩, List.forall_mem_nil _⟩⟩⟩
        case hn9 => exact Nat.le_of_ble_eq_true rfl
        case lw9 => k_mem
        case m91 => k_mem
        case m92 => k_mem
        case m93 => k_mem
        case m94 => k_mem
        case hr9 =>
        intro v1 h5 tk5 o' c2 oc2 o9' c92 oc92 turned g53 gc2 hT' bn2 g152 gc92 hT9' bn92 tl1
        have off2k : ∀ p ∈ (t2, tupO #[Value.bool true, .bool false]) :: [(I, oI), (t9, tupO #[Value.str (S r) tr, .str (S r.reverse) tq9]), (lj, (LCg.lst [.ref j1, .ref j2, .ref j3])), (j1, (listOf (List.toArray [.str (S []) a1, .str (S x) a2, .str (S []) a3]) k1)), (j2, (listOf (List.toArray [.str (S []) b1, .str (S x) b2, .str (S y) b3, .str (S []) b4]) k2)), (j3, (listOf (List.toArray [.str (S []) g1, .str (S x) g2, .str (S y) g3, .str (S z) g4, .str (S []) g5]) k3)), (lw, (listOf (List.toArray [.str (S x) w0, .str (S y) w2, .str (S z) w4]) nw)), (L + 1 + 1, c2'), (84, tabObj ps)], p.1 ≠ I2 := fun p hp => off2 p (List.mem_append_left _ hp)
        have nk : ∀ p ∈ (I2, oI2) :: (t2, tupO #[Value.bool true, .bool false]) :: [(I, oI), (t9, tupO #[Value.str (S r) tr, .str (S r.reverse) tq9]), (lj, (LCg.lst [.ref j1, .ref j2, .ref j3])), (j1, (listOf (List.toArray [.str (S []) a1, .str (S x) a2, .str (S []) a3]) k1)), (j2, (listOf (List.toArray [.str (S []) b1, .str (S x) b2, .str (S y) b3, .str (S []) b4]) k2)), (j3, (listOf (List.toArray [.str (S []) g1, .str (S x) g2, .str (S y) g3, .str (S z) g4, .str (S []) g5]) k3)), (lw, (listOf (List.toArray [.str (S x) w0, .str (S y) w2, .str (S z) w4]) nw)), (L + 1 + 1, c2'), (84, tabObj ps)], p.1 ≠ 53 ∧ p.1 ≠ 152 := List.forall_mem_cons.mpr ⟨⟨Ne.symm (off2 (53, o) (.tail _ (List.mem_append_right _ (.head _)))), Ne.symm (off2 (152, o9) (.tail _ (List.mem_append_right _ (.tail _ (.tail _ (.head _))))))⟩, List.forall_mem_cons.mpr ⟨nmt, nmI⟩⟩
        obtain ⟨F7, N7⟩ := walk_next (keep := (I2, oI2) :: (t2, tupO #[Value.bool true, .bool false]) :: [(I, oI), (t9, tupO #[Value.str (S r) tr, .str (S r.reverse) tq9]), (lj, (LCg.lst [.ref j1, .ref j2, .ref j3])), (j1, (listOf (List.toArray [.str (S []) a1, .str (S x) a2, .str (S []) a3]) k1)), (j2, (listOf (List.toArray [.str (S []) b1, .str (S x) b2, .str (S y) b3, .str (S []) b4]) k2)), (j3, (listOf (List.toArray [.str (S []) g1, .str (S x) g2, .str (S y) g3, .str (S z) g4, .str (S []) g5]) k3)), (lw, (listOf (List.toArray [.str (S x) w0, .str (S y) w2, .str (S z) w4]) nw)), (L + 1 + 1, c2'), (84, tabObj ps)]) F' (cb_drop N' (by repeat (first | exact List.forall_mem_nil _ | refine List.forall_mem_cons.mpr ⟨by k_mem, ?_⟩))) turned nk g53 gc2 hT' bn2 g152 gc92 hT9' bn92
        (try clear F')
        (try clear N')
        (try clear off2)
        (try clear hT)
        (try clear hT9)
        (try clear turned)
        have F' := F7
        have N' := N7
        (try clear F7)
        (try clear N7)
        simp only [List.cons_append, List.nil_append] at N'
        rw [law_plain q [x, y, z] strict no35] at tl1
        k_steps
        unfold Hold
        walk_at "nm"
        with_unfolding_all refine' C_told (r := q) (x := x) (y := y) (z := z) (strict := strict) (am := ?amt) (hdp := ?dpt) (hx := hx.1) (hxl := hx.2.1) (hy := hy.1) (hyl := hy.2.1) (hz := hz.1) (hzl := hz.2.1) (hr := hq12) (hrx := hwx) (hry := hwy) (hrz := hwz) (hlw := ?lwt) (hlj := ?ljt) (hj1 := ?j1t) (hj2 := ?j2t) (hj3 := ?j3t) (hret := ?hrt)
        case amt => exact ⟨⟨_, B'⟩, F', X', N', ⟨_, _, _, _, _, T'⟩, rfl, rfl⟩
        case dpt => decide
        case lwt => k_mem
        case ljt => k_mem
        case j1t => k_mem
        case j2t => k_mem
        case j3t => k_mem
        case hrt =>
        intro v2 h6 tk6 k6 tl2
        have F5 := backF F' k6
        have N5 := backN N' k6
        (try clear F')
        (try clear N')
        have F' := F5
        have N' := N5
        (try clear F5)
        (try clear N5)
        refine tells_ne tl1 tl2 ?_
        k_steps
        walk_at "nm"
        refine Bx.mk ⟨_, [(I, oI), (t9, tupO #[Value.str (S r) tr, .str (S r.reverse) tq9]), (lj, (LCg.lst [.ref j1, .ref j2, .ref j3])), (j1, (listOf (List.toArray [.str (S []) a1, .str (S x) a2, .str (S []) a3]) k1)), (j2, (listOf (List.toArray [.str (S []) b1, .str (S x) b2, .str (S y) b3, .str (S []) b4]) k2)), (j3, (listOf (List.toArray [.str (S []) g1, .str (S x) g2, .str (S y) g3, .str (S z) g4, .str (S []) g5]) k3)), (lw, (listOf (List.toArray [.str (S x) w0, .str (S y) w2, .str (S z) w4]) nw)), (L + 1 + 1, c2'), (84, tabObj ps)] ++ tab4 o' c2 oc2 o9' c92 oc92, ⟨hos, hbare, List.forall_mem_cons.mpr ⟨rfl, List.forall_mem_cons.mpr ⟨rfl, List.forall_mem_nil _⟩⟩, _, _, _, _, _, _, rfl, hT', hT9'⟩, F', cb_drop N' (by repeat (first | exact List.forall_mem_nil _ | refine List.forall_mem_cons.mpr ⟨by k_mem, ?_⟩)), off_all (keep := (t2, tupO #[Value.bool true, .bool false]) :: [(I, oI), (t9, tupO #[Value.str (S r) tr, .str (S r.reverse) tq9]), (lj, (LCg.lst [.ref j1, .ref j2, .ref j3])), (j1, (listOf (List.toArray [.str (S []) a1, .str (S x) a2, .str (S []) a3]) k1)), (j2, (listOf (List.toArray [.str (S []) b1, .str (S x) b2, .str (S y) b3, .str (S []) b4]) k2)), (j3, (listOf (List.toArray [.str (S []) g1, .str (S x) g2, .str (S y) g3, .str (S z) g4, .str (S []) g5]) k3)), (lw, (listOf (List.toArray [.str (S x) w0, .str (S y) w2, .str (S z) w4]) nw)), (L + 1 + 1, c2'), (84, tabObj ps)]) N' (by k_mem) (by repeat (first | exact List.forall_mem_nil _ | refine List.forall_mem_cons.mpr ⟨by k_mem, ?_⟩)) off2k hI2 hT' hT9'⟩
  case B9 =>
  walk_at "nm"
  (try clear F')
  (try clear N')
  (try clear hos)
  (try clear hbare)
  intro s9 m1 hP9
  refine gfold ?_
  intro G9
  obtain ⟨hos, hbare, hgr, F', N'⟩ := hP9
  k_unfold
  (try clear G9)
  k_steps
  exact ⟨rfl, F'.keep, hos, hbare, hgr⟩
end Mine
end
theorem Mine.e9s16 : True := trivial
theorem PySem.Challenge.cw_rx0047_01_holds : PySem.Challenge.rw_rx0047_01.Holds :=
  Mine.lh
