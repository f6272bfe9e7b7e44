import PyProof.Rows.All
import Wide.All
import OpenK.AllK
import Wide.FinOn
import PySem.Challenge.RW_tr0001_01
open PySem PySem.W PyProof.Rows
set_option Elab.async false
set_option maxRecDepth 100000
set_option maxHeartbeats 8000000
set_option linter.all false
namespace Mine
open_top hd for PySem.Challenge.rw_tr0001_01
end Mine
-- B0
section
open PySem PySem.W PyProof.Rows PySem.Spec PySem.Calls
set_option maxRecDepth 100000
set_option maxHeartbeats 8000000
namespace Mine

theorem keptOf {h g h' : Heap} {adr : List Addr} {L' : Addr} {m' : Str → Option Value} (G : GSub h g adr) (F : Fr g L' h' m') : GSub h h' adr :=
  fun b o e n => F.keep b o (G b o e n)
theorem kept_refl {h : Heap} {adr : List Addr} : GSub h h adr := fun _ _ e _ => e
theorem kept_trans {h h' h'' : Heap} {adr : List Addr} (a : GSub h h' adr) (b : GSub h' h'' adr) : GSub h h'' adr :=
  fun c o e n => b c o (a c o e n) n
theorem kept_news {h₀ h h' : Heap} {L : Addr} {N : List (Addr × Obj)} (n : News h₀ L h N) (k : GSub h h' []) : News h₀ L h' N :=
  fun p hp => ⟨k _ _ (n p hp).1 List.not_mem_nil, (n p hp).2⟩
theorem kept_list {h h' : Heap} {l : Addr} {vs : Array Value} (x : h.IsList l vs) (k : GSub h h' []) : h'.IsList l vs :=
  let ⟨o, e, r⟩ := x; ⟨o, k _ _ e List.not_mem_nil, r⟩
theorem kept_keep {h h' : Heap} (k : GSub h h' []) : ∀ b o, h.get? b = some o → h'.get? b = some o := fun b o e => k b o e List.not_mem_nil

theorem retI {h₀ h' : Heap} {L : Addr} {m : Str → Option Value} {s : Shared} {Q : Value → Shared → Prop} {x y : Int} {t : Tok} {tk' : Nat}
    (hret : ∀ (t : Tok) (h' : Heap) (tk' : Nat), Fr h₀ L h' m → GSub s.heap h' [] → Q (.int x t) { s with heap := h', toks := tk' }) (e : y = x) (F : Fr h₀ L h' m) (G : GSub s.heap h' []) :
    Q (.int y t) { s with heap := h', toks := tk' } := by
  subst e
  exact hret _ _ _ F G
-- entering a def with cells, what is hidden being told
theorem enterC {prog : Program} {w : World} {A₀ A : Around} {s : Shared} {base h₀ : Heap} {outer : List Env} {L : Addr} {m mg mb : Str → Option Value} {env : Env} {news : List (Addr × Obj)} {K : Frag} {p : Program} {loose : List Str} {mean : ExcName → Option Value}
    {R : Result → Shared → Prop} {name qual : Str} {params : Arguments} {body : List Stmt} {scope : Scope} {dV kV doc pm cdv ct oc : Value} {an od : Option Addr} {osl : Array (Option Value)} {f : Addr} {args : Args} {binds : List (Str × Value)}
    (B : Below A₀ base outer h₀) (F : Fr h₀ L s.heap m) (X₀ : K.In h₀) (N : News h₀ L s.heap news) (T : Top p loose mean mg mb h₀) (hA : A.frames = some (env :: outer)) (hf : env.frame = some L) (hke : env.scope.kind = .function)
    (ho : K.lookup f = some ⟨oc, od, .func (fnOf name qual params body scope dV kV doc pm an cdv ct), osl⟩) (hcd : codeIn K cdv qual = true) (hroom : A.depth < recursionLimit)
    (hbind : BindsTo s (fnOf name qual params body scope dV kV doc pm an cdv ct) args binds) (hkind : (binds.all fun y => scope.names.lookup y.1 == some .local || scope.names.lookup y.1 == some .cell) = true)
    (hnd : ((cellsFrom 0 scope.names []).map (·.1)).Nodup)
    (h : ∀ g L' h₁ tk cells, Fr h₀ L g m → Fr g L' h₁ (bindL (envOfC qual scope L' f cdv).kindOf binds fun _ => none) → News g L' h₁ (cells ++ news) →
      CellsAre (bindC (envOfC qual scope L' f cdv).kindOf binds fun _ => none) (cellsFrom (L' + 1) scope.names []) cells → Below A base (env :: outer) g → K.In g → Top p loose mean mg mb g → (∀ p ∈ news, p.1 < L') → GSub s.heap g (news.map (·.1)) →
      wpAny (model prog w) (A.deeper (envOfC qual scope L' f cdv)) (execs body (envOfC qual scope L' f cdv))
        (fun fl s' => LeaveK h₀ L m g R (match fl with | .ret v => v | _ => .none) s')
        (fun e s' => wpAny (model prog w) (A.deeper (envOfC qual scope L' f cdv)) (leaving (envOfC qual scope L' f cdv) e) (fun _ s'' => R (.error e) s'') (fun e' s'' => R (.error e') s'') s')
        { s with heap := h₁, toks := tk })
    (hco : scope.isCoroutine = false) (hgen : scope.isGenerator = false) (hk : scope.kind = .function) : codeAny (model prog w) A (.call (.ref f) args) R s := by
  obtain ⟨FG, BG, st, lv⟩ := groundX (R := R) B F N hA hf hke
  have hkin := kindsX hkind
  refine codeAny_call_function hroom ((X₀.keeps F.keep) _ _ ho) rfl hco hgen rfl (codeRec_of (X₀.keeps F.keep) hcd) (hbind _ _ _ _ ?_)
  refine wpAny_newFunctionEnv_cells hk (hkin _) fun env' he s' x => ?_
  subst he
  refine ⟨(T.nolimit.keeps F.keep).keeps x.toInCall.keep, codeAny_func ?_⟩
  obtain ⟨h₁, tk, rfl, _⟩ := x.done
  have kk := x.toInCall.keep
  obtain ⟨cells, NC, Y⟩ := Cl.news (h₀ := s.heap) (Nat.le_refl _) fun n c hm =>
    ⟨x.cell n c (lookup_of_mem_nodup (cellsFrom_names scope.names 0 (s.heap.objs.size + 1) [] [] rfl ▸ hnd) hm), x.above n c hm⟩
  have F1 : Fr (hideAll s.heap (news.map (·.1))) s.heap.objs.size h₁ _ := ⟨x.toInCall.ns, fun b o e => kk b o (of_hideAll _ e), Nat.le_of_eq (hideAll_size _ _)⟩
  have N1 : News (hideAll s.heap (news.map (·.1))) s.heap.objs.size h₁ (cells ++ news) := by
    intro q hq
    rcases List.mem_append.mp hq with hc | hn
    · refine ⟨(NC q hc).1, (NC q hc).2.1, ?_⟩
      cases hz : (hideAll s.heap (news.map (·.1))).get? q.1 with
      | none => rfl
      | some o => exact absurd ((of_hideAll _ hz).symm.trans (NC q hc).2.2) (by simp)
    · exact ⟨kk _ _ (N q hn).1, Nat.ne_of_lt (Heap.lt_size (N q hn).1), hideAll_none _ (List.mem_map_of_mem hn)⟩
  exact wpAny_mono (h _ _ h₁ tk cells FG F1 N1 Y BG (X₀.keeps st) (T.keeps st) (fun q hq => Heap.lt_size (N q hq).1) (fun b o e n => hideAll_get _ e n))
    (fun fl s' hl => lv _ _ hl) fun _ _ y => y

-- the choices
def choicesL (n : Int) : Nat → Int
  | 0 => 1
  | k + 1 => (choicesL n k * (n + (k : Int))).fdiv ((k : Int) + 1)
def choicesF (n k : Int) : Int := if k < 0 then 0 else choicesL n k.toNat
abbrev intBits (x : Int) : Nat := Builtin.Int.intBits x
theorem choicesL_bits {n : Int} (hb : intBits n ≤ 1100000) : ∀ k : Nat, k ≤ 9 → intBits (choicesL n k) ≤ 1100001 * k + 1
  | 0, _ => by rw [choicesL]; exact Nat.le_of_ble_eq_true rfl
  | k + 1, h => by
    rw [choicesL]
    refine intBits_fdiv_le ?_
    refine Nat.le_trans (intBits_mul_le (choicesL_bits hb k (by omega)) (intBits_add_le (n := 64) hb (intBits_le_64 (by omega) (by omega)))) ?_
    omega
theorem choices_mul {n a b : Int} {k : Nat} (hb : intBits n ≤ 1100000) (ha : a = choicesL n k) (hk : k ≤ 9) (e : b = n + (k : Int)) : IntMulOk a b := by
  subst ha e
  exact IntMulOk.of_le (choicesL_bits hb k hk) (intBits_add_le (n := 64) hb (intBits_le_64 (by omega) (by omega))) (by omega)
theorem choices_turn {n ways k : Int} {pre : List Int} (h : ways = choicesL n pre.length) (hk : k = 0 + (pre.length : Int)) : (ways * (n + k)).fdiv (k + 1) = choicesL n (pre ++ [k]).length := by
  rw [List.length_append, List.length_singleton, choicesL, h, hk, Int.zero_add]
theorem choices_start {n : Int} : 1 = choicesL n ([] : List Int).length := rfl
theorem choices_neg {n k : Int} (h : k < 0) : 0 = choicesF n k := by rw [choicesF, if_pos h]
theorem choices_end {n k x : Int} (h : ¬ k < 0) (e : x = choicesL n (rangeKs 0 (k - 0).toNat).length) : x = choicesF n k := by
  rw [e, choicesF, if_neg h]
  congr 1
  simp [rangeKs]
end Mine
end
-- C0
section
theorem Mine.top_C0 : True := by
  w_top off
  trivial
open PySem PySem.W PyProof.Rows PySem.Spec PySem.Calls
set_option maxRecDepth 100000
set_option maxHeartbeats 8000000
set_option linter.unusedVariables false
namespace Mine
local macro_rules | `(tactic| walk_at "M.enterP") => `(tactic| (k_dflt (refine' code_defG ?k1 ?k2 ?k3 ?k4 ?k5 ?kA ?kF ?kK ?k6 ?k7 ?k8 ?k9 ?kB ?_ ?c2 ?c3 ?c4 ?c5; (case kA => exact rfl); (case kF => exact rfl); (case kK => assumption); (case k1 => k_asm); (case k2 => k_asm); (case k3 => k_asm); (case k4 => k_asm); (case k5 => k_asm); (case k6 => k_is); (case k7 => k_is); (case k8 => ktr_room); (case k9 => exact BindsTo.of_eq rfl); (case c5 => decide); (case kB => exact locs rfl); (case c2 => exact rfl); (case c3 => exact rfl); (case c4 => exact rfl); k_whole; intro g' L' h' FG' F' N' B' X' T' GS'; (try dsimp only); (try k_fold))))
local macro_rules | `(tactic| mul_fits) => `(tactic| assumption)
theorem add_c {prog : Program} {w : World} {p : Program} {loose : List Str} {mean : ExcName → Option Value} {mg mb : Str → Option Value}
    {dp un : Nat} {gd : Option (List Code)} {cn : Str} {cs : Scope} {a : Addr} {ccd : Value} {cl : List (Str × Addr)} {outer : List Env} {A₀ : Around} {base h₀ : Heap} {L : Addr} {m : Str → Option Value} {s : Shared} {Q E : Value → Shared → Prop} {x y : Int} {t u : Tok}
    (B : Below A₀ base outer h₀) (F : Fr h₀ L s.heap m) (X : (hd.heap_39 w.params).In h₀) (T : Top p loose mean mg mb h₀) (hk : cs.kind = .function)
    (hdp : dp + 1 < recursionLimit)
    (hret : ∀ (t : Tok) (h' : Heap) (tk' : Nat), Fr h₀ L h' m → GSub s.heap h' [] → Q (.int (x + y) t) { s with heap := h', toks := tk' }) :
    wpAny (model prog w) (ktrTop dp un gd cn cs L a ccd cl outer) (call (.ref 28) [.int x t, .int y u]) Q E s := by
  have hfill : (fun (_ : OpenLaw) (_ : Params → Frag) => True) PySem.Challenge.rw_tr0001_01 hd.heap_39 := by
    k_fill
    trivial
  clear hfill
  have N : News h₀ L s.heap [] := News.nil
  refine wpAny_call ?_
  walk_at "M.enterP"
  k_steps
  exact retI hret rfl (by k_asm) (keptOf (by assumption) (by assumption))
theorem floordiv_c {prog : Program} {w : World} {p : Program} {loose : List Str} {mean : ExcName → Option Value} {mg mb : Str → Option Value}
    {dp un : Nat} {gd : Option (List Code)} {cn : Str} {cs : Scope} {a : Addr} {ccd : Value} {cl : List (Str × Addr)} {outer : List Env} {A₀ : Around} {base h₀ : Heap} {L : Addr} {m : Str → Option Value} {s : Shared} {Q E : Value → Shared → Prop} {x y : Int} {t u : Tok}
    (B : Below A₀ base outer h₀) (F : Fr h₀ L s.heap m) (X : (hd.heap_39 w.params).In h₀) (T : Top p loose mean mg mb h₀) (hk : cs.kind = .function) (hc : y ≠ 0) (hp : Builtin.divisionGoesByPylong x y = false)
    (hdp : dp + 1 < recursionLimit)
    (hret : ∀ (t : Tok) (h' : Heap) (tk' : Nat), Fr h₀ L h' m → GSub s.heap h' [] → Q (.int (x.fdiv y) t) { s with heap := h', toks := tk' }) :
    wpAny (model prog w) (ktrTop dp un gd cn cs L a ccd cl outer) (call (.ref 35) [.int x t, .int y u]) Q E s := by
  have hfill : (fun (_ : OpenLaw) (_ : Params → Frag) => True) PySem.Challenge.rw_tr0001_01 hd.heap_39 := by
    k_fill
    trivial
  clear hfill
  have N : News h₀ L s.heap [] := News.nil
  refine wpAny_call ?_
  walk_at "M.enterP"
  k_steps
  refine floordiv_int hc ?_ (.inl hp)
  k_steps
  exact retI hret rfl (by k_asm) (keptOf (by assumption) (by assumption))
theorem mod_c {prog : Program} {w : World} {p : Program} {loose : List Str} {mean : ExcName → Option Value} {mg mb : Str → Option Value}
    {dp un : Nat} {gd : Option (List Code)} {cn : Str} {cs : Scope} {a : Addr} {ccd : Value} {cl : List (Str × Addr)} {outer : List Env} {A₀ : Around} {base h₀ : Heap} {L : Addr} {m : Str → Option Value} {s : Shared} {Q E : Value → Shared → Prop} {x y : Int} {t u : Tok}
    (B : Below A₀ base outer h₀) (F : Fr h₀ L s.heap m) (X : (hd.heap_39 w.params).In h₀) (T : Top p loose mean mg mb h₀) (hk : cs.kind = .function) (hc : y ≠ 0)
    (hdp : dp + 1 < recursionLimit)
    (hret : ∀ (t : Tok) (h' : Heap) (tk' : Nat), Fr h₀ L h' m → GSub s.heap h' [] → Q (.int (x.fmod y) t) { s with heap := h', toks := tk' }) :
    wpAny (model prog w) (ktrTop dp un gd cn cs L a ccd cl outer) (call (.ref 42) [.int x t, .int y u]) Q E s := by
  have hfill : (fun (_ : OpenLaw) (_ : Params → Frag) => True) PySem.Challenge.rw_tr0001_01 hd.heap_39 := by
    k_fill
    trivial
  clear hfill
  have N : News h₀ L s.heap [] := News.nil
  refine wpAny_call ?_
  walk_at "M.enterP"
  k_steps
  exact retI hret rfl (by k_asm) (keptOf (by assumption) (by assumption))
theorem mul_c {prog : Program} {w : World} {p : Program} {loose : List Str} {mean : ExcName → Option Value} {mg mb : Str → Option Value}
    {dp un : Nat} {gd : Option (List Code)} {cn : Str} {cs : Scope} {a : Addr} {ccd : Value} {cl : List (Str × Addr)} {outer : List Env} {A₀ : Around} {base h₀ : Heap} {L : Addr} {m : Str → Option Value} {s : Shared} {Q E : Value → Shared → Prop} {x y : Int} {t u : Tok}
    (B : Below A₀ base outer h₀) (F : Fr h₀ L s.heap m) (X : (hd.heap_39 w.params).In h₀) (T : Top p loose mean mg mb h₀) (hk : cs.kind = .function) (hc : IntMulOk x y)
    (hdp : dp + 1 < recursionLimit)
    (hret : ∀ (t : Tok) (h' : Heap) (tk' : Nat), Fr h₀ L h' m → GSub s.heap h' [] → Q (.int (x * y) t) { s with heap := h', toks := tk' }) :
    wpAny (model prog w) (ktrTop dp un gd cn cs L a ccd cl outer) (call (.ref 49) [.int x t, .int y u]) Q E s := by
  have hfill : (fun (_ : OpenLaw) (_ : Params → Frag) => True) PySem.Challenge.rw_tr0001_01 hd.heap_39 := by
    k_fill
    trivial
  clear hfill
  have N : News h₀ L s.heap [] := News.nil
  refine wpAny_call ?_
  walk_at "M.enterP"
  k_steps
  exact retI hret rfl (by k_asm) (keptOf (by assumption) (by assumption))
theorem sub_c {prog : Program} {w : World} {p : Program} {loose : List Str} {mean : ExcName → Option Value} {mg mb : Str → Option Value}
    {dp un : Nat} {gd : Option (List Code)} {cn : Str} {cs : Scope} {a : Addr} {ccd : Value} {cl : List (Str × Addr)} {outer : List Env} {A₀ : Around} {base h₀ : Heap} {L : Addr} {m : Str → Option Value} {s : Shared} {Q E : Value → Shared → Prop} {x y : Int} {t u : Tok}
    (B : Below A₀ base outer h₀) (F : Fr h₀ L s.heap m) (X : (hd.heap_39 w.params).In h₀) (T : Top p loose mean mg mb h₀) (hk : cs.kind = .function)
    (hdp : dp + 1 < recursionLimit)
    (hret : ∀ (t : Tok) (h' : Heap) (tk' : Nat), Fr h₀ L h' m → GSub s.heap h' [] → Q (.int (x - y) t) { s with heap := h', toks := tk' }) :
    wpAny (model prog w) (ktrTop dp un gd cn cs L a ccd cl outer) (call (.ref 56) [.int x t, .int y u]) Q E s := by
  have hfill : (fun (_ : OpenLaw) (_ : Params → Frag) => True) PySem.Challenge.rw_tr0001_01 hd.heap_39 := by
    k_fill
    trivial
  clear hfill
  have N : News h₀ L s.heap [] := News.nil
  refine wpAny_call ?_
  walk_at "M.enterP"
  k_steps
  exact retI hret rfl (by k_asm) (keptOf (by assumption) (by assumption))
end Mine
end
-- C1
section
theorem Mine.top_C1 : True := by
  w_top off
  trivial
open PySem PySem.W PyProof.Rows PySem.Spec PySem.Calls
set_option maxRecDepth 100000
set_option maxHeartbeats 8000000
namespace Mine
local macro_rules | `(tactic| walk_at "M.noneC1") => `(tactic| fail "none")
local macro_rules | `(tactic| walk_at "M.enterP") => `(tactic| (k_dflt (refine' code_defG ?k1 ?k2 ?k3 ?k4 ?k5 ?kA ?kF ?kK ?k6 ?k7 ?k8 ?k9 ?kB ?_ ?c2 ?c3 ?c4 ?c5; (case kA => exact rfl); (case kF => exact rfl); (case kK => assumption); (case k1 => k_asm); (case k2 => k_asm); (case k3 => k_asm); (case k4 => k_asm); (case k5 => k_asm); (case k6 => k_is); (case k7 => k_is); (case k8 => ktr_room); (case k9 => exact BindsTo.of_eq rfl); (case c5 => decide); (case kB => exact locs rfl); (case c2 => exact rfl); (case c3 => exact rfl); (case c4 => exact rfl); k_whole; intro g' L' h' FG' F' N' B' X' T' GS'; (try dsimp only); (try k_fold))))

local macro_rules | `(tactic| mul_fits) => `(tactic| exact choices_mul (by assumption) (by assumption) (by omega) (by omega))
theorem choices_c {prog : Program} {w : World} {p : Program} {loose : List Str} {mean : ExcName → Option Value} {mg mb : Str → Option Value}
    {dp un : Nat} {gd : Option (List Code)} {cn : Str} {cs : Scope} {a : Addr} {ccd : Value} {cl : List (Str × Addr)} {outer : List Env} {A₀ : Around} {base h₀ : Heap} {L : Addr} {m : Str → Option Value} {s : Shared} {Q E : Value → Shared → Prop} {n k : Int} {t u : Tok}
    (B : Below A₀ base outer h₀) (F : Fr h₀ L s.heap m) (X : (hd.heap_39 w.params).In h₀) (T : Top p loose mean mg mb h₀) (hk : cs.kind = .function) (hb : intBits n ≤ 1100000) (hk8 : k ≤ 8)
    (hdp : dp + 1 < recursionLimit) (hu : un + 8 < cLine) 
    (hret : ∀ (t : Tok) (h' : Heap) (tk' : Nat), Fr h₀ L h' m → GSub s.heap h' [] → Q (.int (choicesF n k) t) { s with heap := h', toks := tk' }) :
    wpAny (model prog w) (ktrTop dp un gd cn cs L a ccd cl outer) (call (.ref 94) [.int n t, .int k u]) Q E s := by
  have hfill : (fun (_ : OpenLaw) (_ : Params → Frag) => True) PySem.Challenge.rw_tr0001_01 hd.heap_39 := by
    k_fill
    trivial
  clear hfill
  have N : News h₀ L s.heap [] := News.nil
  refine wpAny_call ?_
  walk_at "M.enterP"
  k_with_none
  (k_with "pyIter ref" => k_state (fun pre ways => ways = choicesL n pre.length) "ways")
  (k_with "state" => first | exact choices_start | exact choices_turn (by assumption) (by assumption))
  k_steps
  · exact retI hret (choices_neg (by assumption)) (by k_asm) (keptOf (by assumption) (by assumption))
  · exact retI hret (choices_end (by assumption) (by assumption)) (by k_asm) (keptOf (by assumption) (by assumption))
end Mine
end
-- C2
section
theorem Mine.top_C2 : True := by
  w_top off
  trivial
open PySem PySem.W PyProof.Rows PySem.Spec PySem.Calls
set_option maxRecDepth 100000
set_option maxHeartbeats 8000000
set_option linter.unusedVariables false
namespace Mine
local macro_rules | `(tactic| walk_at "M.noneC2") => `(tactic| fail "none")
local macro_rules | `(tactic| walk_at "M.enterP") => `(tactic| (k_dflt (refine' code_defG ?k1 ?k2 ?k3 ?k4 ?k5 ?kA ?kF ?kK ?k6 ?k7 ?k8 ?k9 ?kB ?_ ?c2 ?c3 ?c4 ?c5; (case kA => exact rfl); (case kF => exact rfl); (case kK => assumption); (case k1 => k_asm); (case k2 => k_asm); (case k3 => k_asm); (case k4 => k_asm); (case k5 => k_asm); (case k6 => k_is); (case k7 => k_is); (case k8 => ktr_room); (case k9 => exact BindsTo.of_eq rfl); (case c5 => decide); (case kB => exact locs rfl); (case c2 => exact rfl); (case c3 => exact rfl); (case c4 => exact rfl); k_whole; intro g' L' h' FG' F' N' B' X' T' GS'; (try dsimp only); (try k_fold))))
def prodF (ns : List Int) : Int := ns.foldl (· * ·) 1
theorem prodF_snoc {pre : List Int} {n : Int} : prodF (pre ++ [n]) = prodF pre * n := by simp [prodF]
theorem mult_start : 1 = prodF [] := rfl
theorem mult_turn {pre : List Int} {p n : Int} (h : p = prodF pre) : p * n = prodF (pre ++ [n]) := by rw [prodF_snoc, h]
theorem mult_ok {ns pre post : List Int} {p n : Int} (hok : ∀ pre x post, ns = pre ++ x :: post → IntMulOk (prodF pre) x) (e : ns = pre ++ n :: post) (h : p = prodF pre) : IntMulOk p n := by
  subst h; exact hok _ _ _ e
section
local macro_rules | `(tactic| mul_fits) => `(tactic| exact mult_ok (by assumption) (by assumption) (by assumption))
local macro_rules | `(tactic| walk_at "call ref") => `(tactic| (k_here; (with_reducible show wpAny _ _ (call (Value.ref 49) [Value.int _ _, Value.int _ _]) _ _ _); k_dflt (refine' mul_c ?u1 ?u2 ?u3 ?u4 ?u5 ?c1 ?r1 ?_; (case u1 => k_asm); (case u2 => k_asm); (case u3 => k_asm); (case u4 => k_asm); (case u5 => first | exact rfl | assumption); (case c1 => mul_fits); (case r1 => ktr_room); k_whole; intro t9 h9 tk9 F9 G9; (have N9 := kept_news (by assumption) G9); (try dsimp only); (try k_fold))))
theorem multiplied_c {prog : Program} {w : World} {p : Program} {loose : List Str} {mean : ExcName → Option Value} {mg mb : Str → Option Value}
    {dp un : Nat} {gd : Option (List Code)} {cn : Str} {cs : Scope} {a : Addr} {ccd : Value} {cl : List (Str × Addr)} {outer : List Env} {A₀ : Around} {base h₀ : Heap} {L : Addr} {m : Str → Option Value} {s : Shared} {Q E : Value → Shared → Prop} {l : Addr} {vs : List Value} {ns : List Int}
    (B : Below A₀ base outer h₀) (F : Fr h₀ L s.heap m) (X : (hd.heap_39 w.params).In h₀) (T : Top p loose mean mg mb h₀) (hk : cs.kind = .function)
    (hl : s.heap.IsList l vs.toArray) (hi : IntsAre vs ns) (hsz : ns.length < 1000) (hok : ∀ pre x post, ns = pre ++ x :: post → IntMulOk (prodF pre) x)
    (hdp : dp + 2 < recursionLimit)
    (hret : ∀ (t : Tok) (h' : Heap) (tk' : Nat), Fr h₀ L h' m → GSub s.heap h' [] → Q (.int (prodF ns) t) { s with heap := h', toks := tk' }) :
    wpAny (model prog w) (ktrTop dp un gd cn cs L a ccd cl outer) (call (.ref 87) [.ref l]) Q E s := by
  have hfill : (fun (_ : OpenLaw) (_ : Params → Frag) => True) PySem.Challenge.rw_tr0001_01 hd.heap_39 := by
    k_fill
    trivial
  clear hfill
  have N : News h₀ L s.heap [] := News.nil
  refine wpAny_call ?_
  walk_at "M.enterP"
  k_with_none
  (k_with "pyIter ref" => k_state (fun pre product => product = prodF pre) "product")
  (k_with "state" => first | exact mult_start | exact mult_turn (by assumption))
  rename GSub _ _ _ => GS
  have hl' := kept_list hl GS
  k_steps
  exact retI hret (by assumption) (by k_asm) (keptOf (by assumption) (by assumption))
end
end Mine
end
-- C3
section
theorem Mine.top_C3 : True := by
  w_top off
  trivial
open PySem PySem.W PyProof.Rows PySem.Spec PySem.Calls
set_option maxRecDepth 100000
set_option maxHeartbeats 8000000
set_option linter.unusedVariables false
namespace Mine
local macro_rules | `(tactic| walk_at "M.enterC") => `(tactic| (k_dflt (refine' enterC ?k1 ?k2 ?k3 ?k4 ?k5 ?kA ?kF ?kK ?k6 ?k7 ?k8 ?k9 ?kB ?kD ?_ ?c2 ?c3 ?c4; (case kA => exact rfl); (case kF => exact rfl); (case kK => assumption); (case k1 => k_asm); (case k2 => k_asm); (case k3 => k_asm); (case k4 => k_asm); (case k5 => k_asm); (case k6 => k_is); (case k7 => k_is); (case k8 => ktr_room); (case k9 => exact BindsTo.of_eq rfl); (case kB => exact rfl); (case kD => decide +kernel); (case c2 => exact rfl); (case c3 => exact rfl); (case c4 => exact rfl); k_whole; intro g' L' h' tk' cells' FG' F' N' Y' B' X' T' l1 GS'; (try k_lt l1); k_cells Y'; (try simp only [List.cons_append, List.nil_append] at N'); (try dsimp only); (try k_fold))))

def detF (n x y z : Int) : Int :=
  choicesF n (x + 0) * (choicesF n (y - 1 + 1) * choicesF n (z - 2 + 2) - choicesF n (y - 1 + 2) * choicesF n (z - 2 + 1))
  - choicesF n (x + 1) * (choicesF n (y - 1 + 0) * choicesF n (z - 2 + 2) - choicesF n (y - 1 + 2) * choicesF n (z - 2 + 0))
  + choicesF n (x + 2) * (choicesF n (y - 1 + 0) * choicesF n (z - 2 + 1) - choicesF n (y - 1 + 1) * choicesF n (z - 2 + 0))
theorem ints3 {f : Int → Int} {ys : List Value} (h : IntsAre ys (List.map f (rangeKs 0 (3 - 0 : Int).toNat))) : ∃ t1 t2 t3 : Tok, ys = [.int (f 0) t1, .int (f 1) t2, .int (f 2) t3] := by
  have e : rangeKs 0 (3 - 0 : Int).toNat = [0, 1, 2] := rfl
  rw [e] at h
  cases h with
  | cons a t1 h => cases h with
    | cons b t2 h => cases h with
      | cons c t3 h => cases h with
        | nil => exact ⟨t1, t2, t3, rfl⟩
theorem bitsC {n k : Int} (hb : intBits n ≤ 1100000) (hk : k ≤ 8) : intBits (choicesF n k) ≤ 8800009 := by
  rw [choicesF]
  split
  · exact Nat.le_of_ble_eq_true rfl
  · exact Nat.le_trans (choicesL_bits hb k.toNat (by omega)) (by omega)
theorem bitsP {a b c d : Int} (ha : intBits a ≤ 8800009) (hb : intBits b ≤ 8800009) (hc : intBits c ≤ 8800009) (hd : intBits d ≤ 8800009) : intBits (a * b - c * d) ≤ 17600019 :=
  Nat.le_trans (intBits_sub_le (intBits_mul_le ha hb) (intBits_mul_le hc hd)) (by decide)
section
local macro_rules | `(tactic| walk_at "M.idx") => `(tactic| ((simp only [show Int.toNat 0 = 0 from rfl, show Int.toNat 1 = 1 from rfl, show Int.toNat 2 = 2 from rfl, List.getD_cons_zero, List.getD_cons_succ]); omega))
local macro_rules | `(tactic| walk_at "M.bits") => `(tactic| exact bitsC (by assumption) (by walk_at "M.idx"))
local macro_rules | `(tactic| mul_fits) => `(tactic| first
  | exact IntMulOk.of_le (by walk_at "M.bits") (by walk_at "M.bits") (by decide)
  | exact IntMulOk.of_le (by walk_at "M.bits") (bitsP (by walk_at "M.bits") (by walk_at "M.bits") (by walk_at "M.bits") (by walk_at "M.bits")) (by decide))
local macro_rules | `(tactic| walk_at "call ref") => `(tactic| (k_here; (with_reducible show wpAny _ _ (call (Value.ref 94) [Value.int _ _, Value.int _ _]) _ _ _); k_dflt (refine' choices_c ?u1 ?u2 ?u3 ?u4 ?u5 ?c1 ?c2 ?r1 ?r2 ?_; (case u1 => k_asm); (case u2 => k_asm); (case u3 => k_asm); (case u4 => k_asm); (case u5 => first | exact rfl | assumption); (case c1 => k_asm); (case c2 => (first | omega | ((simp only [show Int.toNat 0 = 0 from rfl, show Int.toNat 1 = 1 from rfl, show Int.toNat 2 = 2 from rfl, List.getD_cons_zero, List.getD_cons_succ]); omega))); (case r1 => ktr_room); (case r2 => ktr_units); k_whole; intro t9 h9 tk9 F9 G9; (have N9 := kept_news (by assumption) G9); (try dsimp only); (try k_fold))))
theorem determinant_c {prog : Program} {w : World} {p : Program} {loose : List Str} {mean : ExcName → Option Value} {mg mb : Str → Option Value}
    {dp un : Nat} {gd : Option (List Code)} {cn : Str} {cs : Scope} {a : Addr} {ccd : Value} {cl : List (Str × Addr)} {outer : List Env} {A₀ : Around} {base h₀ : Heap} {L : Addr} {m : Str → Option Value} {s : Shared} {Q E : Value → Shared → Prop} {l : Addr} {x y z n : Int} {t1 t2 t3 t4 : Tok}
    (B : Below A₀ base outer h₀) (F : Fr h₀ L s.heap m) (X : (hd.heap_39 w.params).In h₀) (T : Top p loose mean mg mb h₀) (hk : cs.kind = .function)
    (hl : s.heap.IsList l #[.int x t1, .int y t2, .int z t3]) (hb : intBits n ≤ 1100000) (hx : x ≤ 6) (hy : y ≤ 6) (hz : z ≤ 6)
    (hdp : dp + 3 < recursionLimit) (hu : un + 30 < cLine)
    (hret : ∀ (t : Tok) (h' : Heap) (tk' : Nat), Fr h₀ L h' m → GSub s.heap h' [] → Q (.int (detF n x y z) t) { s with heap := h', toks := tk' }) :
    wpAny (model prog w) (ktrTop dp un gd cn cs L a ccd cl outer) (call (.ref 99) [.ref l, .int n t4]) Q E s := by
  have hfill : (fun (_ : OpenLaw) (_ : Params → Frag) => True) PySem.Challenge.rw_tr0001_01 hd.heap_39 := by
    k_fill
    trivial
  clear hfill
  have N : News h₀ L s.heap [] := News.nil
  refine wpAny_call ?_
  walk_at "M.enterC"
  k_with_none
  rename GSub _ _ _ => GS
  have hl' := kept_list hl GS
  k_steps
  obtain ⟨u1, u2, u3, rfl⟩ := ints3 (by assumption)
  k_steps
  obtain ⟨u4, u5, u6, rfl⟩ := ints3 (by assumption)
  k_steps
  obtain ⟨u7, u8, u9, rfl⟩ := ints3 (by assumption)
  k_steps
  exact retI hret rfl (by k_asm) (keptOf (by assumption) (by assumption))
end
end Mine
end
-- B1
section
open PySem PySem.W PyProof.Rows PySem.Spec PySem.Calls
set_option maxRecDepth 100000
set_option maxHeartbeats 8000000
set_option linter.unusedVariables false
namespace Mine

theorem ints_snoc : ∀ {vs : List Value} {ns p : List Int} {x : Int}, IntsAre vs ns → ns = p ++ [x] → ∃ vp t, vs = vp ++ [.int x t] ∧ IntsAre vp p
  | _, _, p, x, .nil, e => by simp at e
  | _, _, p, x, .cons n t (vs := vs) (ns := ns) h, e => by
    cases p with
    | nil =>
      simp only [List.nil_append, List.cons.injEq] at e
      obtain ⟨rfl, rfl⟩ := e
      cases h
      exact ⟨[], t, rfl, .nil⟩
    | cons y p =>
      simp only [List.cons_append, List.cons.injEq] at e
      obtain ⟨rfl, e⟩ := e
      obtain ⟨vp, t', rfl, hp⟩ := ints_snoc h e
      exact ⟨.int n t :: vp, t', rfl, .cons n t hp⟩

theorem last_snoc : ∀ (p : List Value) (y : Value), kl_last (p ++ [y]) = some (p, y)
  | [], _ => rfl
  | x :: p, y => by
    show (match kl_last (p ++ [y]) with | some (p, y) => some (x :: p, y) | none => some ([], x)) = _
    rw [last_snoc p y]

theorem upd_of {d : Addr} {o o' : Obj} : ∀ {pre post : List (Addr × Obj)}, (∀ p ∈ pre, p.1 ≠ d) → (∀ p ∈ post, p.1 ≠ d) → Upd d o o' (pre ++ (d, o) :: post) (pre ++ (d, o') :: post)
  | [], _, _, h => .head h
  | p :: _, _, h, k => .tail (h p (.head _)) (upd_of (fun q hq => h q (.tail _ hq)) k)

section
variable {prog : Program} {w : World} {A : Around} {E : Value → Shared → Prop} {s : Shared} {h₀ : Heap} {L D : Addr} {m : Str → Option Value} {news : List (Addr × Obj)} {g : Obj → List (Addr × Obj)} {vs : List Value} {ns p : List Int} {x : Int} {n : Nat}

theorem pop_ints {Q : Value → Shared → Prop} (F : Fr h₀ L s.heap m) (N : News h₀ L s.heap news) (hi : IntsAre vs ns) (e : ns = p ++ [x]) (U : UpdF D (listOf vs.toArray n) news g) (hz : ns.length ≤ 1000)
    (h : ∀ vp t h', IntsAre vp p → Fr h₀ L h' m → News h₀ L h' (g (listOf vp.toArray (n + 1))) → Q (.int x t) { s with heap := h' }) :
    wpAny (model prog w) A (call (.builtin "list.pop") [.ref D]) Q E s := by
  obtain ⟨pre, post, rfl, hg, a, b⟩ := U.split
  obtain ⟨vp, t, rfl, hp⟩ := ints_snoc hi e
  refine kl_pop F N (p := vp) (y := .int x t) (by rw [List.toList_toArray]; exact last_snoc _ _) (upd_of a b) ?_ fun h' F' N' => h vp t h' hp F' ?_
  · rw [List.toList_toArray, hi.length]; exact Nat.le_trans hz (by decide)
  · rw [hg]; exact N'

theorem eq_ints {k : Int} {t : Tok} (hi : IntsAre vs ns) : ∀ y, y ∈ vs → MeetsSeq.EqGives y (.int k t) (isInt k y) := by
  induction hi with
  | nil => intro y hy; exact nomatch hy
  | cons a u _ ih =>
    intro y hy
    rcases List.mem_cons.mp hy with rfl | hy
    · exact MeetsSeq.EqGives.int a k u t
    · exact ih y hy

theorem ints_at (hi : IntsAre vs ns) : ∀ {j : Nat} (hj : j < vs.length) (hj' : j < ns.length), ∃ t, vs[j] = .int ns[j] t := by
  induction hi with
  | nil => intro j hj; exact absurd hj (Nat.not_lt_zero _)
  | cons a u _ ih =>
    intro j hj hj'
    cases j with
    | zero => exact ⟨u, rfl⟩
    | succ j => exact ih (Nat.lt_of_succ_lt_succ hj) (Nat.lt_of_succ_lt_succ hj')
theorem ints_erase (hi : IntsAre vs ns) : ∀ j : Nat, IntsAre (vs.eraseIdx j) (ns.eraseIdx j) := by
  induction hi with
  | nil => intro j; exact .nil
  | cons a u h ih =>
    intro j
    cases j with
    | zero => exact h
    | succ j => exact .cons a u (ih j)

theorem remove_hit {k : Int} {t : Tok} {Q : Value → Shared → Prop} (F : Fr h₀ L s.heap m) (N : News h₀ L s.heap news) (hi : IntsAre vs ns) (hk : k ∈ ns) (U : UpdF D (listOf vs.toArray n) news g) (hz : ns.length ≤ 1000)
    (h : ∀ vp h', IntsAre vp (ns.erase k) → Fr h₀ L h' m → News h₀ L h' (g (listOf vp.toArray (n + 1))) → Q .none { s with heap := h' }) :
    wpAny (model prog w) A (call (.builtin "list.remove") [.ref D, .int k t]) Q E s := by
  obtain ⟨pre, post, rfl, hg, a, b⟩ := U.split
  have z := N (D, listOf vs.toArray n) (List.mem_append.mpr (.inr (.head _)))
  have hl := hi.length
  have hj : ns.idxOf k < ns.length := List.idxOf_lt_length_iff.mpr hk
  have hj' : ns.idxOf k < vs.toArray.size := by rw [List.size_toArray]; omega
  have hq : IntsAre (vs.eraseIdx (ns.idxOf k)) (ns.erase k) := by
    rw [List.erase_eq_eraseIdx_of_idxOf rfl]
    exact ints_erase hi _
  have hz' : vs.toArray.size ≤ sizeLine := by rw [List.size_toArray, hl]; exact Nat.le_trans hz (by decide)
  refine call_meets PySem.F.slot_list_remove ⟨_, z.1, rfl⟩ PySem.F.entry_list_remove (PySem.F.args_list_remove_2 _ _)
    (MeetsSeq.list_remove D vs.toArray n (.int k t) (isInt k) (fun y hy => eq_ints hi y (by simpa using hy)) (ns.idxOf k) hj' ?_ (fun i hi' hlt => ?_) hz')
    ⟨z.1, h _ _ hq (F.change (Heap.SameBut.update ..) z.2.1 z.2.2) ?_⟩
  · obtain ⟨t', e⟩ := ints_at hi (j := ns.idxOf k) (by omega) hj
    show isInt k (vs.toArray[ns.idxOf k]) = true
    rw [List.getElem_toArray, e, List.getElem_idxOf hj]
    simp [isInt]
  · have hi2 : i < ns.length := by omega
    obtain ⟨t', e⟩ := ints_at hi (j := i) (by omega) hi2
    show isInt k (vs.toArray[i]) = false
    rw [List.getElem_toArray, e]
    have hne := List.not_of_lt_findIdx (p := (· == k)) (xs := ns) (i := i) hlt
    simpa [isInt] using hne
  · rw [hg]
    refine kl_turn _ N a b ?_ ?_
    · apply Array.toList_inj.mp
      simp [Array.toList_eraseIdxIfInBounds]
    · rw [List.size_toArray, List.size_toArray, List.length_eraseIdx]
      have : ns.idxOf k < vs.length := by omega
      rw [if_pos this]; omega

theorem remove_miss {k : Int} {t : Tok} {Q : Value → Shared → Prop} (N : News h₀ L s.heap news) (hi : IntsAre vs ns) (hk : k ∉ ns) (hm : (D, listOf vs.toArray n) ∈ news) (hh : A.handled = none)
    (h : ∀ h' tk e, Heap.NewExc s.heap h' e "ValueError" → E (.ref e) { s with heap := h', toks := tk }) :
    wpAny (model prog w) A (call (.builtin "list.remove") [.ref D, .int k t]) Q E s := by
  have z := N _ hm
  have hl := hi.length
  refine call_meets PySem.F.slot_list_remove ⟨_, z.1, rfl⟩ PySem.F.entry_list_remove (PySem.F.args_list_remove_2 _ _)
    (MeetsSeq.list_remove_none D vs.toArray n (.int k t) (isInt k) (fun y hy => eq_ints hi y (by simpa using hy)) (fun i hi' => ?_))
    ⟨z.1, hh, fun h' tk e x => h h' tk e x⟩
  have hi2 : i < ns.length := by rw [List.size_toArray] at hi'; omega
  obtain ⟨t', e⟩ := ints_at hi (j := i) (by omega) hi2
  show isInt k (vs.toArray[i]) = false
  rw [List.getElem_toArray, e]
  have : ns[i] ≠ k := fun q => hk (q ▸ List.getElem_mem hi2)
  simpa [isInt] using this
end
end Mine
end
-- B2
section
open PySem PySem.W PyProof.Rows PySem.Spec PySem.Calls
set_option maxRecDepth 100000
set_option maxHeartbeats 8000000
set_option linter.unusedVariables false
namespace Mine

-- a heap cut at an address
def trunc (h : Heap) (n : Nat) : Heap := { h with objs := h.objs.extract 0 n }
theorem trunc_get {h : Heap} {n b : Nat} (hb : b < n) : (trunc h n).get? b = h.get? b := by
  unfold Heap.get? trunc
  dsimp only
  rw [Array.getElem?_extract]
  simp only [Nat.zero_add, Nat.sub_zero]
  by_cases hs : b < h.objs.size
  · rw [if_pos (by omega)]
  · rw [if_neg (by omega), Array.getElem?_eq_none (by omega)]
theorem trunc_size (h : Heap) (n : Nat) : (trunc h n).objs.size ≤ n := by
  unfold trunc
  dsimp only
  rw [Array.size_extract]
  omega
theorem trunc_some {h : Heap} {n b : Nat} {o : Obj} (e : (trunc h n).get? b = some o) : b < n ∧ h.get? b = some o := by
  have h1 : b < n := Nat.lt_of_lt_of_le (Heap.lt_size e) (trunc_size h n)
  exact ⟨h1, (trunc_get h1).symm.trans e⟩

abbrev framesOf (l : List Env) : List Addr := l.filterMap (·.frame)

-- all that stood stands, but for what is named and for the frames' slots
def UpK (l : List Env) (adr : List Addr) (h h' : Heap) : Prop :=
  ∀ b o, h.get? b = some o → b ∉ adr → ∃ o', h'.get? b = some o' ∧ (o' = o ∨ (b ∈ framesOf l ∧ ∃ sl, o' = { o with slots := sl }))
theorem UpK.refl {l : List Env} {adr : List Addr} {h : Heap} : UpK l adr h h := fun b o e _ => ⟨o, e, .inl rfl⟩
theorem UpK.exact {l : List Env} {adr : List Addr} {h h' : Heap} {b : Addr} {o : Obj} (u : UpK l adr h h') (e : h.get? b = some o) (n : b ∉ adr) (f : b ∉ framesOf l) : h'.get? b = some o := by
  obtain ⟨o', e', r⟩ := u b o e n
  rcases r with rfl | ⟨q, _⟩
  · exact e'
  · exact absurd q f
theorem UpK.trans {l l₁ l₂ : List Env} {a a₁ a₂ : List Addr} {h h' h'' : Heap} (u : UpK l₁ a₁ h h') (v : UpK l₂ a₂ h' h'')
    (ha : ∀ b o, h.get? b = some o → b ∉ a → b ∉ a₁ ∧ b ∉ a₂) (hl : ∀ b o, h.get? b = some o → (b ∈ framesOf l₁ → b ∈ framesOf l) ∧ (b ∈ framesOf l₂ → b ∈ framesOf l)) : UpK l a h h'' := by
  intro b o e n
  obtain ⟨n1, n2⟩ := ha b o e n
  obtain ⟨o', e', r⟩ := u b o e n1
  obtain ⟨o'', e'', r'⟩ := v b o' e' n2
  refine ⟨o'', e'', ?_⟩
  rcases r with rfl | ⟨q, sl, rfl⟩
  · rcases r' with rfl | ⟨q', sl', rfl⟩
    · exact .inl rfl
    · exact .inr ⟨(hl b o' e).2 q', sl', rfl⟩
  · rcases r' with rfl | ⟨q', sl', rfl⟩
    · exact .inr ⟨(hl b o e).1 q, sl, rfl⟩
    · exact .inr ⟨(hl b o e).1 q, sl', rfl⟩

-- the frames stand
def FramesAt (l : List Env) (base h : Heap) : Prop := ∃ frs, TI.Frs l frs ∧ ∀ q ∈ frs, h.get? q.1 = some q.2 ∧ base.get? q.1 = none

theorem frs_mem : ∀ {l : List Env} {frs : List (Addr × Obj)}, TI.Frs l frs → framesOf l = frs.map (·.1) := TI.Frs.addrs

theorem FramesAt.up {l l' : List Env} {adr : List Addr} {base h h' : Heap} (x : FramesAt l base h) (u : UpK l' adr h h') (ha : ∀ b ∈ framesOf l, b ∉ adr) : FramesAt l base h' := by
  obtain ⟨frs, Fs, hf⟩ := x
  have hs : ∀ p ∈ frs, ∃ sl, h'.get? p.1 = some { p.2 with slots := sl } := fun p hp => by
    have hm : p.1 ∈ framesOf l := by rw [frs_mem Fs]; exact List.mem_map_of_mem hp
    obtain ⟨o', e', r⟩ := u p.1 p.2 (hf p hp).1 (ha _ hm)
    rcases r with rfl | ⟨_, sl, rfl⟩
    · exact ⟨p.2.slots, e'⟩
    · exact ⟨sl, e'⟩
  obtain ⟨frs', SU, hq⟩ := TI.sameUp_of hs
  refine ⟨frs', Fs.up SU, fun q hqm => ⟨hq q hqm, ?_⟩⟩
  have : q.1 ∈ framesOf l := by rw [frs_mem (Fs.up SU)]; exact List.mem_map_of_mem hqm
  rw [frs_mem Fs] at this
  obtain ⟨p, hp, e⟩ := List.mem_map.mp this
  rw [← e]; exact (hf p hp).2

theorem FramesAt.fun {l : List Env} {base h : Heap} (x : FramesAt l base h) : h.FunFrames base l := by
  obtain ⟨frs, Fs, hf⟩ := x
  revert frs
  induction l with
  | nil => intro _ _ _; exact trivial
  | cons env l ih =>
    intro frs Fs hf
    cases frs with
    | nil => exact False.elim Fs
    | cons p ps =>
      obtain ⟨a, b, ⟨es, ep, c⟩, d⟩ := Fs
      refine ⟨a, ⟨p.1, p.2, b, (hf p List.mem_cons_self).2, (hf p List.mem_cons_self).1, fun vs q => ?_⟩, ih ps d fun q hq => hf q (List.mem_cons_of_mem _ hq)⟩
      rw [c] at q; cases q

theorem ns_up {h h' : Heap} {L : Addr} {m : Str → Option Value} {o : Obj} {sl : Array (Option Value)} (n : h.Ns L m) (e : h.get? L = some o) (e' : h'.get? L = some { o with slots := sl }) : h'.Ns L m := by
  obtain ⟨oL, es, ep, a, b, c, d⟩ := n
  rw [e] at a; cases a
  exact ⟨_, es, ep, e', b, c, d⟩
theorem ns_upK {l : List Env} {adr : List Addr} {h h' : Heap} {L : Addr} {m : Str → Option Value} (n : h.Ns L m) (u : UpK l adr h h') (hL : L ∉ adr) : h'.Ns L m := by
  have n' := n
  obtain ⟨oL, es, ep, a, b, c, d⟩ := n
  obtain ⟨o', e', r⟩ := u L oL a hL
  rcases r with rfl | ⟨_, sl, rfl⟩
  · exact ⟨_, es, ep, e', b, c, d⟩
  · exact ns_up n' a e'

-- entering a def, the heap told whole
theorem enterU {prog : Program} {w : World} {A : Around} {s : Shared} {K : Frag} {R : Result → Shared → Prop} {name qual : Str} {params : Arguments} {body : List Stmt} {scope : Scope} {dV kV doc pm cdv ct oc : Value} {an od : Option Addr} {osl : Array (Option Value)} {f : Addr} {args : Args} {binds : List (Str × Value)}
    (X : K.In s.heap) (hlim : s.heap.NoLimit) (ho : K.lookup f = some ⟨oc, od, .func (fnOf name qual params body scope dV kV doc pm an cdv ct), osl⟩) (hcd : codeIn K cdv qual = true) (hroom : A.depth < recursionLimit)
    (hbind : BindsTo s (fnOf name qual params body scope dV kV doc pm an cdv ct) args binds) (hloc : ∀ y ∈ binds, scope.names.lookup y.1 = some .local)
    (hcell : ∀ x ∈ scope.names, x.2 ≠ .cell)
    (h : ∀ h₁, h₁.Ns s.heap.objs.size (fun y => binds.reverse.lookup y) → (∀ b o, s.heap.get? b = some o → h₁.get? b = some o) →
      wpAny (model prog w) (A.deeper (envOf qual scope s.heap.objs.size f cdv)) (execs body (envOf qual scope s.heap.objs.size f cdv))
        (fun fl s' => R (.ok (.ret (match fl with | .ret v => v | _ => .none))) s')
        (fun e s' => wpAny (model prog w) (A.deeper (envOf qual scope s.heap.objs.size f cdv)) (leaving (envOf qual scope s.heap.objs.size f cdv) e) (fun _ s'' => R (.error e) s'') (fun e' s'' => R (.error e') s'') s')
        { s with heap := h₁, toks := s.toks + binds.length })
    (hco : scope.isCoroutine = false) (hgen : scope.isGenerator = false) (hk : scope.kind = .function) : codeAny (model prog w) A (.call (.ref f) args) R s :=
  codeAny_call_def (fd := fnOf name qual params body scope dV kV doc pm an cdv ct) (body := body) (binds := binds) hroom (X _ _ ho) rfl hlim (codeRec_of X hcd) rfl hbind hcell hloc h hco hgen hk

-- the difference
def uldStep (st : List Int × List Int) (x : Int) : List Int × List Int := if x ∈ st.2 then (st.1, st.2.erase x) else (st.1 ++ [x], st.2)
def uldF (xs ys : List Int) : List Int × List Int := xs.reverse.foldl uldStep ([], ys)
def UldW (xs ys ex ac mi : List Int) : Prop := ∃ dn : List Int, xs = ex ++ dn ∧ uldF dn ys = (mi, ac)
theorem uld_start {xs ys : List Int} : UldW xs ys xs ys [] := ⟨[], by simp, rfl⟩
theorem uldF_cons (x : Int) (dn ys : List Int) : uldF (x :: dn) ys = uldStep (uldF dn ys) x := by
  unfold uldF
  rw [List.reverse_cons, List.foldl_append]
  rfl
theorem uld_hit {xs ys p ac mi : List Int} {x : Int} (h : UldW xs ys (p ++ [x]) ac mi) (hx : x ∈ ac) : UldW xs ys p (ac.erase x) mi := by
  obtain ⟨dn, e, f⟩ := h
  refine ⟨x :: dn, by rw [e]; simp, ?_⟩
  rw [uldF_cons, f, uldStep, if_pos hx]
theorem uld_miss {xs ys p ac mi : List Int} {x : Int} (h : UldW xs ys (p ++ [x]) ac mi) (hx : x ∉ ac) : UldW xs ys p ac (mi ++ [x]) := by
  obtain ⟨dn, e, f⟩ := h
  refine ⟨x :: dn, by rw [e]; simp, ?_⟩
  rw [uldF_cons, f, uldStep, if_neg hx]
theorem uld_end {xs ys ac mi : List Int} (h : UldW xs ys [] ac mi) : uldF xs ys = (mi, ac) := by
  obtain ⟨dn, e, f⟩ := h
  rw [List.nil_append] at e
  rw [e]; exact f
theorem uld_len {xs ys ex ac mi : List Int} (h : UldW xs ys ex ac mi) : ac.length ≤ ys.length ∧ ex.length + mi.length ≤ xs.length := by
  obtain ⟨dn, rfl, f⟩ := h
  have key : ∀ dn : List Int, (uldF dn ys).2.length ≤ ys.length ∧ (uldF dn ys).1.length ≤ dn.length := by
    intro dn
    induction dn with
    | nil => exact ⟨Nat.le_refl _, Nat.le_refl _⟩
    | cons x dn ih =>
      rw [uldF_cons, uldStep]
      split
      · refine ⟨Nat.le_trans List.length_erase_le ih.1, ?_⟩
        rw [List.length_cons]; exact Nat.le_trans ih.2 (Nat.le_succ _)
      · refine ⟨ih.1, ?_⟩
        simp only [List.length_append, List.length_cons, List.length_nil]; have := ih.2; omega
  have k := key dn
  rw [f] at k
  rw [List.length_append]
  exact ⟨k.1, by have := k.2; dsimp only at this; omega⟩
end Mine
end
-- C4
section
theorem Mine.top_C4 : True := by
  w_top off
  trivial
open PySem PySem.W PyProof.Rows PySem.Spec PySem.Calls
set_option maxRecDepth 100000
set_option maxHeartbeats 8000000
set_option linter.unusedVariables false
namespace Mine

abbrev UldJ (frs : List (Addr × Obj)) (l : List Env) (e c r : Addr) (xs ys : List Int) (n : Nat) (m : Str → Option Value) (nx : List (Addr × Obj)) : Prop :=
  ∃ ex ac mi vE vC vM nE nC nM frs', nx = (r, listOf (List.toArray vM) nM) :: (e, listOf (List.toArray vE) nE) :: (c, listOf (List.toArray vC) nC) :: frs' ∧ TI.SameUp frs frs' ∧ TI.Frs l frs' ∧
    IntsAre vE ex ∧ IntsAre vC ac ∧ IntsAre vM mi ∧ UldW xs ys ex ac mi ∧ n = ex.length ∧ m (Str.ofString "missing") = some (.ref r) ∧ m (Str.ofString "expected") = some (.ref e) ∧ m (Str.ofString "actual") = some (.ref c)
theorem uldMap {m : Str → Option Value} {e c r : Addr} (h1 : m (Str.ofString "missing") = some (.ref r)) (h2 : m (Str.ofString "expected") = some (.ref e)) (h3 : m (Str.ofString "actual") = some (.ref c)) :
    m = fun y => if y = Str.ofString "missing" then some (.ref r) else if y = Str.ofString "expected" then some (.ref e) else if y = Str.ofString "actual" then some (.ref c) else m y := by
  funext y
  by_cases a : y = Str.ofString "missing"
  · rw [if_pos a, a, h1]
  rw [if_neg a]
  by_cases b : y = Str.ofString "expected"
  · rw [if_pos b, b, h2]
  rw [if_neg b]
  by_cases d : y = Str.ofString "actual"
  · rw [if_pos d, d, h3]
  rw [if_neg d]
theorem sameUp_ne {frs frs' : List (Addr × Obj)} {e : Addr} (SU : TI.SameUp frs frs') (h : e ∉ frs.map (·.1)) : ∀ p ∈ frs', p.1 ≠ e := fun p hp q => by
  obtain ⟨x, hx, q'⟩ := SU.fwd p hp
  exact h (q ▸ q' ▸ List.mem_map_of_mem hx)
theorem sameUp_lt {frs frs' : List (Addr × Obj)} {r : Addr} (SU : TI.SameUp frs frs') (h : AllLt r frs) : ∀ p ∈ frs', p.1 ≠ r := fun p hp q => by
  obtain ⟨x, hx, q'⟩ := SU.fwd p hp
  have := kst_ltOf h x hx
  rw [← q', q] at this
  exact Nat.lt_irrefl _ this
theorem snoc_of {ex : List Int} (h : 0 < ex.length) : ∃ p x, ex = p ++ [x] := by
  rcases List.eq_nil_or_concat ex with rfl | ⟨p, x, e⟩
  · exact absurd h (Nat.lt_irrefl _)
  · exact ⟨p, x, by simpa using e⟩
theorem apart3 {g h : Heap} {L r e c : Addr} {o1 o2 o3 : Obj} {frs : List (Addr × Obj)} (N : News g L h ((r, o1) :: (e, o2) :: (c, o3) :: frs)) (h1 : ∀ p ∈ frs, p.1 ≠ r) (h2 : ∀ p ∈ frs, p.1 ≠ e) (h3 : ∀ p ∈ frs, p.1 ≠ c) :
    ∀ p ∈ [(r, o1), (e, o2), (c, o3)], p.1 ∉ L :: frs.map (·.1) := by
  intro p hp hm
  have hN : p ∈ (r, o1) :: (e, o2) :: (c, o3) :: frs := List.mem_append_left (bs := frs) hp
  rcases List.mem_cons.mp hm with q | hm
  · exact (N p hN).2.1 q
  obtain ⟨x, hx, q⟩ := List.mem_map.mp hm
  simp only [List.mem_cons, List.not_mem_nil, or_false] at hp
  rcases hp with rfl | rfl | rfl
  · exact h1 x hx q
  · exact h2 x hx q
  · exact h3 x hx q
theorem sameUp_ne2 {frs frs' : List (Addr × Obj)} {r : Addr} (SU : TI.SameUp frs frs') (h : ∀ p ∈ frs, p.1 ≠ r) : ∀ p ∈ frs', p.1 ≠ r := fun p hp q => by
  obtain ⟨x, hx, q'⟩ := SU.fwd p hp
  exact h x hx (q' ▸ q)
theorem sameUp_back {frs frs' : List (Addr × Obj)} {r : Addr} (SU : TI.SameUp frs frs') (h : ∀ p ∈ frs', p.1 ≠ r) : ∀ p ∈ frs, p.1 ≠ r := fun p hp q => by
  obtain ⟨sl, hm⟩ := SU.back p hp
  exact h _ hm q
theorem small_size {vs : List Value} {ns : List Int} (h : IntsAre vs ns) (k : ns.length ≤ 1000) : vs.toArray.size ≤ sizeLine := by
  rw [List.size_toArray, h.length]; exact Nat.le_trans k (by decide)
theorem fresh_hid {h g : Heap} {hid : List Addr} {t : Addr} (hg : hideAll h hid = g) (e : g.get? t = none) (n : t ∉ hid) : h.get? t = none := by
  cases q : h.get? t with
  | none => rfl
  | some o =>
    have := hideAll_get hid q n
    rw [hg, e] at this; cases this
theorem not_hid {t e c : Addr} {frs : List (Addr × Obj)} (h1 : t ≠ e) (h2 : t ≠ c) (h3 : ∀ p ∈ frs, p.1 ≠ t) : t ∉ e :: c :: frs.map (·.1) := by
  intro hm
  rcases List.mem_cons.mp hm with q | hm
  · exact h1 q
  rcases List.mem_cons.mp hm with q | hm
  · exact h2 q
  obtain ⟨p, hp, q⟩ := List.mem_map.mp hm
  exact h3 p hp q
theorem uld_up {l : List Env} {frs frs' : List (Addr × Obj)} {base h h' : Heap} {e c : Addr} (k : ∀ b o, (hideAll h (e :: c :: frs.map (·.1))).get? b = some o → h'.get? b = some o)
    (hfr : ∀ q ∈ frs, h.get? q.1 = some q.2 ∧ base.get? q.1 = none) (SU : TI.SameUp frs frs') (hN : ∀ q ∈ frs', h'.get? q.1 = some q.2) (Fs : TI.Frs l frs) : UpK l [e, c] h h' := by
  intro b o eb n
  simp only [List.mem_cons, List.not_mem_nil, or_false, not_or] at n
  by_cases hb : b ∈ frs.map (·.1)
  · obtain ⟨p, hp, rfl⟩ := List.mem_map.mp hb
    obtain ⟨sl, hm⟩ := SU.back p hp
    have h1 := (hfr p hp).1
    rw [eb] at h1; cases h1
    exact ⟨_, hN (p.1, { p.2 with slots := sl }) hm, .inr ⟨by rw [frs_mem Fs]; exact hb, sl, rfl⟩⟩
  · refine ⟨o, k b o (hideAll_get _ eb fun hm => ?_), .inl rfl⟩
    rcases List.mem_cons.mp hm with q | hm
    · exact n.1 q
    rcases List.mem_cons.mp hm with q | hm
    · exact n.2 q
    exact hb hm
section
theorem uld_c {prog : Program} {w : World} {mean : ExcName → Option Value} {mg mb : Str → Option Value}
    {dp un : Nat} {gd : Option (List Code)} {cn : Str} {cs : Scope} {a : Addr} {ccd : Value} {cl : List (Str × Addr)} {outer : List Env} {base : Heap} {L : Addr} {s : Shared} {Q E : Value → Shared → Prop} {e c : Addr} {vx vy : List Value} {xs ys : List Int} {nx ny : Nat} {frs : List (Addr × Obj)}
    (Fs : TI.Frs (envX cn cs L a ccd cl :: outer) frs) (hfr : ∀ q ∈ frs, s.heap.get? q.1 = some q.2 ∧ base.get? q.1 = none)
    (Kb : ∀ b o, base.get? b = some o → s.heap.get? b = some o) (X : (hd.heap_39 w.params).In base) (T : Top hd.view_39 (looseW hd.view_39 []) mean mg mb base)
    (he : s.heap.get? e = some (listOf vx.toArray nx)) (hc : s.heap.get? c = some (listOf vy.toArray ny)) (hne : e ≠ c) (be : base.get? e = none) (bc : base.get? c = none)
    (hx : IntsAre vx xs) (hy : IntsAre vy ys) (hlx : xs.length ≤ 200) (hly : ys.length ≤ 200)
    (hdp : dp + 2 < recursionLimit)
    (hret : ∀ (t r : Addr) (vr vc : List Value) (nr ne' nc' : Nat) (h' : Heap) (tk' : Nat), UpK (envX cn cs L a ccd cl :: outer) [e, c] s.heap h' → h'.get? t = some { cls := .type "tuple", data := .seq #[.ref r, .ref c] } →
      h'.get? r = some (listOf vr.toArray nr) → IntsAre vr (uldF xs ys).1 → h'.get? c = some (listOf vc.toArray nc') → IntsAre vc (uldF xs ys).2 → h'.get? e = some (listOf (List.toArray []) ne') →
      s.heap.get? t = none → s.heap.get? r = none → t ≠ r → Q (.ref t) { s with heap := h', toks := tk' }) :
    wpAny (model prog w) (ktrTop dp un gd cn cs L a ccd cl outer) (call (.ref 21) [.ref e, .ref c]) Q E s := by
  have hfill : (fun (_ : OpenLaw) (_ : Params → Frag) => True) PySem.Challenge.rw_tr0001_01 hd.heap_39 := by
    k_fill
    trivial
  clear hfill
  -- what is hidden: the two lists and the frames
  have hef : e ∉ frs.map (·.1) := fun q => by
    obtain ⟨p, hp, q⟩ := List.mem_map.mp q
    obtain ⟨es, ep, d⟩ := Fs.dict p hp
    have h1 := (hfr p hp).1
    rw [q, he] at h1
    rw [← Option.some.inj h1] at d; cases d
  have hcf : c ∉ frs.map (·.1) := fun q => by
    obtain ⟨p, hp, q⟩ := List.mem_map.mp q
    obtain ⟨es, ep, d⟩ := Fs.dict p hp
    have h1 := (hfr p hp).1
    rw [q, hc] at h1
    rw [← Option.some.inj h1] at d; cases d
  generalize hH : e :: c :: frs.map (·.1) = hid
  have bh : ∀ b o, base.get? b = some o → b ∉ hid := fun b o eb hb => by
    subst hH
    rcases List.mem_cons.mp hb with rfl | hb
    · rw [be] at eb; cases eb
    rcases List.mem_cons.mp hb with rfl | hb
    · rw [bc] at eb; cases eb
    obtain ⟨p, hp, rfl⟩ := List.mem_map.mp hb
    rw [(hfr p hp).2] at eb; cases eb
  generalize hg : hideAll s.heap hid = g
  have kg : ∀ b o, base.get? b = some o → g.get? b = some o := fun b o eb => hg ▸ hideAll_get _ (Kb b o eb) (bh b o eb)
  have X' : (hd.heap_39 w.params).In g := X.keeps kg
  have T' : Top hd.view_39 (looseW hd.view_39 []) mean mg mb g := T.keeps kg
  have gs : ∀ b o, g.get? b = some o → s.heap.get? b = some o := fun b o eb => of_hideAll _ (hg ▸ eb)
  refine wpAny_call ?_
  refine' enterU (X.keeps Kb) (T.nolimit.keeps Kb) ?look ?code ?room ?bind ?loc ?cell (fun h₁ hns hk₁ => ?body) ?c1 ?c2 ?c3
  case look => k_is
  case code => k_is
  case room => ktr_room
  case bind => exact BindsTo.of_eq rfl
  case cell => decide
  case loc => exact locs rfl
  case c1 => exact rfl
  case c2 => exact rfl
  case c3 => exact rfl
  generalize hL' : s.heap.objs.size = L' at hns ⊢
  have F' : Fr g L' h₁ _ := ⟨hns, fun b o eb => hk₁ b o (gs b o eb), by rw [← hg, ← hL']; exact Nat.le_of_eq (hideAll_size _ _)⟩
  have N' : News g L' h₁ ((e, listOf vx.toArray nx) :: (c, listOf vy.toArray ny) :: frs) := by
    have key : ∀ p : Addr × Obj, s.heap.get? p.1 = some p.2 → p.1 ∈ hid → h₁.get? p.1 = some p.2 ∧ p.1 ≠ L' ∧ g.get? p.1 = none := fun p h1 h2 =>
      ⟨hk₁ _ _ h1, hL' ▸ Nat.ne_of_lt (Heap.lt_size h1), hg ▸ hideAll_none _ h2⟩
    intro p hp
    rcases List.mem_cons.mp hp with rfl | hp
    · exact key _ he (hH ▸ List.mem_cons_self)
    rcases List.mem_cons.mp hp with rfl | hp
    · exact key _ hc (hH ▸ List.mem_cons_of_mem _ List.mem_cons_self)
    · exact key _ (hfr p hp).1 (hH ▸ List.mem_cons_of_mem _ (List.mem_cons_of_mem _ (List.mem_map_of_mem hp)))
  clear hns hk₁
  (try dsimp only)
  k_with_none
  (k_with "exec While Name cons nil" => (refine' While_inv2 (UldJ frs (envX cn cs L a ccd cl :: outer) e c _ xs ys) (by assumption) (by assumption) ⟨xs, ys, [], vx, vy, [], nx, ny, 0, frs, rfl, TI.SameUp.refl _, Fs, hx, hy, .nil, uld_start, rfl, rfl, rfl, rfl⟩ ?turn ?hE; (case hE => passes_own); (rintro n m₁ nx₁ h₂ tk₂ F₂ N₂ ⟨ex, ac, mi, vE, vC, vM, nE, nC, nM, frs', rfl, SU, Fs', iE, iC, iM, W, rfl, m1, m2, m3⟩); (have hW := uld_len W); (have hW2 : ex.length ≤ 200 ∧ ac.length ≤ 200 ∧ mi.length ≤ 200 := by omega); (rw [uldMap m1 m2 m3] at F₂); (rename (_ < _ ∧ _ < _ ∧ AllLt _ _) => lr); (have hfe := sameUp_ne SU hef); (have hfc := sameUp_ne SU hcf); (have hfq := sameUp_lt SU lr.2.2); (have hre := Nat.ne_of_gt lr.1); (have hrc := Nat.ne_of_gt lr.2.1)))
  (k_with "call builtin:list.pop" => ((obtain ⟨p, x, rfl⟩ := snoc_of (by assumption)); (refine' pop_ints (by k_asm) (by k_asm) iE rfl (.tail hre (.head (List.forall_mem_cons.mpr ⟨Ne.symm hne, hfe⟩))) (by omega) ?_); (intro vp t9 h9 ip F9 N9); (try dsimp only); (try k_fold)))
  k_with "call builtin:list.remove" =>
    by_cases hk9 : x ∈ ac
    refine' remove_hit (by k_asm) (by k_asm) iC hk9 (.tail hrc (.tail hne (.head hfc))) (by omega) ?_
    intro vq h9 iq F9 N9
    (try dsimp only)
    (try k_fold)
    rotate_left
    refine' remove_miss (by k_asm) iC hk9 (by k_mem) rfl ?_
    intro h9 tk9 e9 hX9
    (try dsimp only)
    (try k_fold)
    rotate_left
  k_with "noteFrame ref" =>
    rename News _ _ _ _ => nX9
    rename Fr _ _ _ _ => fX9
    refine' TLg.noted_newA (new := [(_, _), (_, _), (_, _)]) rfl Fs' hX9 fX9 nX9 ?hap9 ?k9
    case hap9 => exact apart3 nX9 hfq hfe hfc
    intro h10 frs2 SU2 Fs2 tiH
    (try simp only [List.nil_append, List.cons_append] at tiH)
    have tiHH := TT.HeldNA.held tiH
    (try dsimp only)
    (try k_fold)
  k_with "call builtin:list.append" =>
    refine' append_K (by k_asm) (by k_asm) (.head (List.forall_mem_cons.mpr ⟨Ne.symm hre, List.forall_mem_cons.mpr ⟨Ne.symm hrc, sameUp_ne2 SU2 hfq⟩⟩)) ?_ (small_size iM (by omega))
    intro h11 F11 N11
    (try simp only [List.push_toArray] at N11)
    (try dsimp only)
    (try k_fold)
  k_steps
  · exact ⟨_, _, _, _, p.length, rfl, F9, N9, by simp, p, ac.erase x, mi, vp, vq, vM, _, _, _, frs', rfl, SU, Fs', ip, iq, iM, uld_hit W hk9, rfl, rfl, rfl, rfl⟩
  · exact ⟨_, _, _, _, p.length, rfl, F11, N11, by simp, p, ac, mi ++ [x], vp, vC, vM ++ [.int x t9], _, _, _, frs2, rfl, SU.trans SU2, Fs2, ip, iC, IntsAre.append iM (.cons x t9 .nil), uld_miss W hk9, rfl, rfl, rfl, rfl⟩
  · rename (¬ 0 < _) => hz9
    rename Fr _ _ _ _ => fE9
    rename News _ _ _ _ => nE9
    rename (_ < _ ∧ _ < _ ∧ _ < _ ∧ AllLt _ _) => lt9
    obtain rfl : ex = [] := by cases ex with | nil => rfl | cons _ _ => exact absurd (Nat.zero_lt_succ _) hz9
    cases iE
    have hf9 := uld_end W
    subst hL'
    refine hret _ _ vM vC _ _ _ _ _ (uld_up (fun b o eb => fE9.keep b o (by rw [← hg, ← hH]; exact eb)) hfr SU ?_ Fs) (nE9 _ List.mem_cons_self).1 (nE9 _ (List.mem_cons_of_mem _ List.mem_cons_self)).1 (by rw [hf9]; exact iM) (nE9 _ (List.mem_cons_of_mem _ (List.mem_cons_of_mem _ (List.mem_cons_of_mem _ List.mem_cons_self)))).1 (by rw [hf9]; exact iC) (nE9 _ (List.mem_cons_of_mem _ (List.mem_cons_of_mem _ List.mem_cons_self))).1 ?_ ?_ ?_
    · exact fun q hq => (nE9 q (List.mem_cons_of_mem _ (List.mem_cons_of_mem _ (List.mem_cons_of_mem _ (List.mem_cons_of_mem _ hq))))).1
    · refine fresh_hid hg (nE9 _ List.mem_cons_self).2.2 ?_
      rw [← hH]
      exact not_hid (Nat.ne_of_gt lt9.2.1) (Nat.ne_of_gt lt9.2.2.1) (sameUp_back SU (sameUp_lt (TI.SameUp.refl _) lt9.2.2.2))
    · refine fresh_hid hg (nE9 _ (List.mem_cons_of_mem _ List.mem_cons_self)).2.2 ?_
      rw [← hH]
      exact not_hid hre hrc (sameUp_back SU hfq)
    · exact Nat.ne_of_gt lt9.1
end
end Mine
end
-- B3
section
open PySem PySem.W PyProof.Rows PySem.Spec PySem.Calls
set_option maxRecDepth 100000
set_option maxHeartbeats 8000000
set_option linter.unusedVariables false
namespace Mine

abbrev newG (h : Heap) (L : Addr) (ledger : List (Addr × Obj)) : Heap := hideAll (trunc h L) (ledger.map (·.1))
theorem re_get {h : Heap} {L b : Addr} {ledger : List (Addr × Obj)} {o : Obj} (e : h.get? b = some o) (hb : b < L) (hn : ∀ p ∈ ledger, p.1 ≠ b) : (newG h L ledger).get? b = some o :=
  hideAll_get _ ((trunc_get hb).trans e) fun q => by
    obtain ⟨p, hp, q⟩ := List.mem_map.mp q
    exact hn p hp q
theorem re_some {h : Heap} {L b : Addr} {ledger : List (Addr × Obj)} {o : Obj} (e : (newG h L ledger).get? b = some o) : b < L ∧ h.get? b = some o := trunc_some (of_hideAll _ e)
theorem re_size {h : Heap} {L : Addr} {ledger : List (Addr × Obj)} : (newG h L ledger).objs.size ≤ L := by
  rw [hideAll_size]; exact trunc_size h L
theorem re_fr {h : Heap} {L : Addr} {m : Str → Option Value} {ledger : List (Addr × Obj)} (n : h.Ns L m) : Fr (newG h L ledger) L h m := ⟨n, fun b o e => (re_some e).2, re_size⟩
theorem re_news {h : Heap} {L : Addr} {ledger : List (Addr × Obj)} (hl : ∀ p ∈ ledger, h.get? p.1 = some p.2 ∧ p.1 ≠ L) : News (newG h L ledger) L h ledger :=
  fun p hp => ⟨(hl p hp).1, (hl p hp).2, hideAll_none _ (List.mem_map_of_mem hp)⟩
theorem re_base {base h : Heap} {L : Addr} {ledger : List (Addr × Obj)} (Kb : ∀ b o, base.get? b = some o → h.get? b = some o) (hs : base.objs.size ≤ L) (hn : ∀ p ∈ ledger, base.get? p.1 = none) :
    ∀ b o, base.get? b = some o → (newG h L ledger).get? b = some o := fun b o e =>
  re_get (Kb b o e) (Nat.lt_of_lt_of_le (Heap.lt_size e) hs) fun p hp q => by
    have := hn p hp
    rw [q, e] at this; cases this
theorem re_frames {l : List Env} {base h : Heap} {L : Addr} {ledger : List (Addr × Obj)} (x : FramesAt l base h) (hb : ∀ b ∈ framesOf l, b < L ∧ ∀ p ∈ ledger, p.1 ≠ b) : FramesAt l base (newG h L ledger) := by
  obtain ⟨frs, Fs, hf⟩ := x
  refine ⟨frs, Fs, fun q hq => ⟨?_, (hf q hq).2⟩⟩
  have hm : q.1 ∈ framesOf l := by rw [frs_mem Fs]; exact List.mem_map_of_mem hq
  exact re_get (hf q hq).1 (hb _ hm).1 (hb _ hm).2
theorem below_of {A : Around} {base g : Heap} {l : List Env} (hA : A.frames = some l) (Kb : ∀ b o, base.get? b = some o → g.get? b = some o) (x : FramesAt l base g) : Below A base l g := ⟨hA, Kb, x.fun⟩
theorem base_upK {l : List Env} {adr : List Addr} {base h h' : Heap} (Kb : ∀ b o, base.get? b = some o → h.get? b = some o) (u : UpK l adr h h') (ha : ∀ b ∈ adr, base.get? b = none) (hl : ∀ b ∈ framesOf l, base.get? b = none) :
    ∀ b o, base.get? b = some o → h'.get? b = some o := fun b o e =>
  u.exact (Kb b o e) (fun q => by rw [ha b q] at e; cases e) fun q => by rw [hl b q] at e; cases e
theorem FramesAt.base {l : List Env} {base h : Heap} (x : FramesAt l base h) : ∀ b ∈ framesOf l, base.get? b = none := by
  obtain ⟨frs, Fs, hf⟩ := x
  intro b hb
  rw [frs_mem Fs] at hb
  obtain ⟨p, hp, rfl⟩ := List.mem_map.mp hb
  exact (hf p hp).2
theorem FramesAt.here {l : List Env} {base h : Heap} (x : FramesAt l base h) : ∀ b ∈ framesOf l, ∃ o, h.get? b = some o ∧ ∃ es ep, o.data = .dict es ep := by
  obtain ⟨frs, Fs, hf⟩ := x
  intro b hb
  rw [frs_mem Fs] at hb
  obtain ⟨p, hp, rfl⟩ := List.mem_map.mp hb
  exact ⟨p.2, (hf p hp).1, Fs.dict p hp⟩
theorem FramesAt.keeps {l : List Env} {base h h' : Heap} (x : FramesAt l base h) (k : ∀ b o, h.get? b = some o → h'.get? b = some o) : FramesAt l base h' := by
  obtain ⟨frs, Fs, hf⟩ := x
  exact ⟨frs, Fs, fun q hq => ⟨k _ _ (hf q hq).1, (hf q hq).2⟩⟩
theorem FramesAt.push {l : List Env} {base h : Heap} {env : Env} {L : Addr} {m : Str → Option Value} (x : FramesAt l base h) (n : h.Ns L m) (hf : env.frame = some L) (hk : env.scope.kind = .function) (hb : base.get? L = none) : FramesAt (env :: l) base h := by
  obtain ⟨frs, Fs, hfr⟩ := x
  obtain ⟨oL, es, ep, a, b, c, d⟩ := n
  refine ⟨(L, oL) :: frs, ⟨by rw [hk]; decide, hf, ⟨es, ep, b⟩, Fs⟩, fun q hq => ?_⟩
  rcases List.mem_cons.mp hq with rfl | hq
  · exact ⟨a, hb⟩
  · exact hfr q hq
theorem FramesAt.apart {l : List Env} {base h : Heap} {a : Addr} {o : Obj} {xs : Array Value} {n : Nat} (x : FramesAt l base h) (e : h.get? a = some o) (hd : o.data = .seq xs n) : a ∉ framesOf l := fun q => by
  obtain ⟨o', e', es, ep, d⟩ := x.here a q
  rw [e] at e'; cases e'
  rw [hd] at d; cases d
-- entering a def with cells, the heap told whole
theorem enterUC {prog : Program} {w : World} {A : Around} {s : Shared} {K : Frag} {R : Result → Shared → Prop} {name qual : Str} {params : Arguments} {body : List Stmt} {scope : Scope} {dV kV doc pm cdv ct oc : Value} {an od : Option Addr} {osl : Array (Option Value)} {f : Addr} {args : Args} {binds : List (Str × Value)}
    (X : K.In s.heap) (hlim : s.heap.NoLimit) (ho : K.lookup f = some ⟨oc, od, .func (fnOf name qual params body scope dV kV doc pm an cdv ct), osl⟩) (hcd : codeIn K cdv qual = true) (hroom : A.depth < recursionLimit)
    (hbind : BindsTo s (fnOf name qual params body scope dV kV doc pm an cdv ct) args binds) (hkind : (binds.all fun y => scope.names.lookup y.1 == some .local || scope.names.lookup y.1 == some .cell) = true)
    (hnd : ((cellsFrom 0 scope.names []).map (·.1)).Nodup)
    (h : ∀ h₁ tk cells, h₁.Ns s.heap.objs.size (bindL (envOfC qual scope s.heap.objs.size f cdv).kindOf binds fun _ => none) → (∀ b o, s.heap.get? b = some o → h₁.get? b = some o) → News s.heap s.heap.objs.size h₁ cells →
      CellsAre (bindC (envOfC qual scope s.heap.objs.size f cdv).kindOf binds fun _ => none) (cellsFrom (s.heap.objs.size + 1) scope.names []) cells →
      wpAny (model prog w) (A.deeper (envOfC qual scope s.heap.objs.size f cdv)) (execs body (envOfC qual scope s.heap.objs.size f cdv))
        (fun fl s' => R (.ok (.ret (match fl with | .ret v => v | _ => .none))) s')
        (fun e s' => wpAny (model prog w) (A.deeper (envOfC qual scope s.heap.objs.size f cdv)) (leaving (envOfC qual scope s.heap.objs.size f cdv) e) (fun _ s'' => R (.error e) s'') (fun e' s'' => R (.error e') s'') s')
        { s with heap := h₁, toks := tk })
    (hco : scope.isCoroutine = false) (hgen : scope.isGenerator = false) (hk : scope.kind = .function) : codeAny (model prog w) A (.call (.ref f) args) R s := by
  have hkin := kindsX hkind
  refine codeAny_call_function hroom (X _ _ ho) rfl hco hgen rfl (codeRec_of X hcd) (hbind _ _ _ _ ?_)
  refine wpAny_newFunctionEnv_cells hk (hkin _) fun env' he s' x => ?_
  subst he
  refine ⟨hlim.keeps x.toInCall.keep, codeAny_func ?_⟩
  obtain ⟨h₁, tk, rfl, _⟩ := x.done
  obtain ⟨cells, NC, Y⟩ := Cl.news (h₀ := s.heap) (Nat.le_refl _) fun n c hm =>
    ⟨x.cell n c (lookup_of_mem_nodup (cellsFrom_names scope.names 0 (s.heap.objs.size + 1) [] [] rfl ▸ hnd) hm), x.above n c hm⟩
  exact h h₁ tk cells x.toInCall.ns x.toInCall.keep NC Y

theorem none_base {base h : Heap} {t : Addr} (Kb : ∀ b o, base.get? b = some o → h.get? b = some o) (e : h.get? t = none) : base.get? t = none := by
  cases q : base.get? t with
  | none => rfl
  | some o => rw [Kb _ _ q] at e; cases e
theorem ne_none {h : Heap} {t b : Addr} {o : Obj} (e : h.get? t = none) (f : h.get? b = some o) : t ≠ b := fun q => by
  rw [q, f] at e; cases e
theorem none_size {h : Heap} {b : Addr} (hb : h.objs.size ≤ b) : h.get? b = none := Heap.get?_none_of_le hb
theorem list_at {h : Heap} {l : Addr} {its : Array Value} {n : Nat} (e : h.get? l = some (listOf its n)) : h.IsList l its := ⟨_, e, rfl, n, rfl⟩
end Mine
end
-- C5
section
theorem Mine.top_C5 : True := by
  w_top off
  trivial
open PySem PySem.W PyProof.Rows PySem.Spec PySem.Calls
set_option maxRecDepth 100000
set_option maxHeartbeats 8000000
set_option linter.unusedVariables false
namespace Mine

section
theorem uld_u {prog : Program} {w : World} {mean : ExcName → Option Value} {mg mb : Str → Option Value}
    {dp un : Nat} {gd : Option (List Code)} {cn : Str} {cs : Scope} {a : Addr} {ccd : Value} {cl : List (Str × Addr)} {outer : List Env} {base : Heap} {L : Addr} {s : Shared} {Q E : Value → Shared → Prop} {e c : Addr} {vx vy : List Value} {xs ys : List Int} {nx ny : Nat}
    (FA : FramesAt (envX cn cs L a ccd cl :: outer) base s.heap)
    (Kb : ∀ b o, base.get? b = some o → s.heap.get? b = some o) (X : (hd.heap_39 w.params).In base) (T : Top hd.view_39 (looseW hd.view_39 []) mean mg mb base)
    (he : s.heap.get? e = some (listOf vx.toArray nx)) (hc : s.heap.get? c = some (listOf vy.toArray ny)) (hne : e ≠ c) (be : base.get? e = none) (bc : base.get? c = none)
    (hx : IntsAre vx xs) (hy : IntsAre vy ys) (hlx : xs.length ≤ 200) (hly : ys.length ≤ 200)
    (hdp : dp + 2 < recursionLimit)
    (hret : ∀ (t r : Addr) (vr vc : List Value) (nr ne' nc' : Nat) (h' : Heap) (tk' : Nat), UpK (envX cn cs L a ccd cl :: outer) [e, c] s.heap h' → h'.get? t = some { cls := .type "tuple", data := .seq #[.ref r, .ref c] } →
      h'.get? r = some (listOf vr.toArray nr) → IntsAre vr (uldF xs ys).1 → h'.get? c = some (listOf vc.toArray nc') → IntsAre vc (uldF xs ys).2 → h'.get? e = some (listOf (List.toArray []) ne') →
      s.heap.get? t = none → s.heap.get? r = none → t ≠ r → Q (.ref t) { s with heap := h', toks := tk' }) :
    wpAny (model prog w) (ktrTop dp un gd cn cs L a ccd cl outer) (call (.ref 21) [.ref e, .ref c]) Q E s := by
  obtain ⟨frs, Fs, hfr⟩ := FA
  exact uld_c Fs hfr Kb X T he hc hne be bc hx hy hlx hly hdp hret

theorem asked_mid {P : Params} {mean : ExcName → Option Value} {mg mb : Str → Option Value} {l : List Env} {env : Env} {base hs h₁ h9 : Heap} {L' e c t r : Addr} {m' : Str → Option Value} {vr vc : List Value} {nr ne' nc' : Nat} {oe oc : Obj}
    (Kb : ∀ b o, base.get? b = some o → hs.get? b = some o) (X : (hd.heap_39 P).In base) (T : Top hd.view_39 (looseW hd.view_39 []) mean mg mb base) (FA : FramesAt l base hs)
    (he : hs.get? e = some oe) (hc : hs.get? c = some oc) (be : base.get? e = none) (bc : base.get? c = none)
    (hL : hs.objs.size = L') (hns : h₁.Ns L' m') (hk : ∀ b o, hs.get? b = some o → h₁.get? b = some o) (hf : env.frame = some L')
    (U : UpK (env :: l) [e, c] h₁ h9) (ht : h9.get? t = some { cls := .type "tuple", data := .seq #[.ref r, .ref c] }) (hr : h9.get? r = some (listOf vr.toArray nr))
    (hc9 : h9.get? c = some (listOf vc.toArray nc')) (he9 : h9.get? e = some (listOf (List.toArray []) ne')) (ft : h₁.get? t = none) (fr : h₁.get? r = none) (tr : t ≠ r) :
    ∃ g, Fr g L' h9 m' ∧ News g L' h9 [(t, { cls := .type "tuple", data := .seq #[.ref r, .ref c] }), (r, listOf vr.toArray nr)] ∧ (hd.heap_39 P).In g ∧ Top hd.view_39 (looseW hd.view_39 []) mean mg mb g ∧ g.IsList e (List.toArray []) ∧
      hs.get? t = none ∧ hs.get? r = none ∧ t ≠ r ∧ ∀ h'', (∀ b o, g.get? b = some o → h''.get? b = some o) → UpK l [e, c] hs h'' ∧ h''.get? c = some (listOf vc.toArray nc') ∧ h''.get? e = some (listOf (List.toArray []) ne') := by
  have lt : ∀ b o, hs.get? b = some o → b < L' := fun b o q => hL ▸ Heap.lt_size q
  have hL1 : ∃ o, h₁.get? L' = some o := by
    obtain ⟨oL, es, ep, q, _⟩ := hns
    exact ⟨oL, q⟩
  obtain ⟨oL, hL1⟩ := hL1
  have ft' := none_base hk ft
  have fr' := none_base hk fr
  have K1 : ∀ b o, base.get? b = some o → h9.get? b = some o := by
    refine base_upK (h := h₁) (fun b o q => hk b o (Kb b o q)) U ?_ ?_
    · intro b hb
      rcases List.mem_cons.mp hb with rfl | hb
      · exact be
      · rw [List.mem_singleton.mp hb]; exact bc
    · intro b hb
      rcases List.mem_cons.mp (show b ∈ L' :: framesOf l by simpa [framesOf, hf] using hb) with rfl | hb
      · cases q : base.get? b with
        | none => rfl
        | some o => exact absurd (lt _ _ (Kb _ _ q)) (Nat.lt_irrefl _)
      · exact FA.base b hb
  have hLn : L' ∉ [e, c] := fun q => by
    rcases List.mem_cons.mp q with q | q
    · exact absurd (lt _ _ he) (q ▸ Nat.lt_irrefl _)
    · exact absurd (lt _ _ hc) (List.mem_singleton.mp q ▸ Nat.lt_irrefl _)
  have ns9 := ns_upK hns U hLn
  have hb : base.objs.size ≤ L' ∨ L' < base.objs.size := Nat.lt_or_ge L' base.objs.size |>.symm
  have away : ∀ b o, hs.get? b = some o → ∀ p ∈ [(t, ({ cls := .type "tuple", data := .seq #[.ref r, .ref c] } : Obj)), (r, listOf vr.toArray nr)], p.1 ≠ b := by
    intro b o q p hp
    simp only [List.mem_cons, List.not_mem_nil, or_false] at hp
    rcases hp with rfl | rfl
    · exact ne_none ft' q
    · exact ne_none fr' q
  have K2 : ∀ b o, base.get? b = some o → (newG h9 L' [(t, { cls := .type "tuple", data := .seq #[.ref r, .ref c] }), (r, listOf vr.toArray nr)]).get? b = some o :=
    fun b o q => re_get (K1 b o q) (lt _ _ (Kb b o q)) (away _ _ (Kb b o q))
  refine ⟨newG h9 L' [(t, { cls := .type "tuple", data := .seq #[.ref r, .ref c] }), (r, listOf vr.toArray nr)], re_fr ns9, re_news ?_, X.keeps K2, T.keeps K2, list_at (re_get he9 (lt _ _ he) (away _ _ he)), ft', fr', tr, ?_⟩
  · intro p hp
    simp only [List.mem_cons, List.not_mem_nil, or_false] at hp
    rcases hp with rfl | rfl
    · exact ⟨ht, ne_none ft hL1⟩
    · exact ⟨hr, ne_none fr hL1⟩
  · intro h'' k
    refine ⟨fun b o q n => ?_, k _ _ (re_get hc9 (lt _ _ hc) (away _ _ hc)), k _ _ (re_get he9 (lt _ _ he) (away _ _ he))⟩
    obtain ⟨o', e', x⟩ := U b o (hk b o q) n
    refine ⟨o', k _ _ (re_get e' (lt _ _ q) (away _ _ q)), x.imp id fun ⟨y, z⟩ => ⟨?_, z⟩⟩
    rcases List.mem_cons.mp (show b ∈ L' :: framesOf l by simpa [framesOf, hf] using y) with rfl | y
    · exact absurd (lt _ _ q) (Nat.lt_irrefl _)
    · exact y
theorem asked_c {prog : Program} {w : World} {mean : ExcName → Option Value} {mg mb : Str → Option Value}
    {dp un : Nat} {gd : Option (List Code)} {cn : Str} {cs : Scope} {a : Addr} {ccd : Value} {cl : List (Str × Addr)} {outer : List Env} {base : Heap} {L : Addr} {s : Shared} {Q E : Value → Shared → Prop} {e c : Addr} {vx vy : List Value} {xs ys : List Int} {nx ny : Nat}
    (hkc : cs.kind = .function) (FA : FramesAt (envX cn cs L a ccd cl :: outer) base s.heap)
    (Kb : ∀ b o, base.get? b = some o → s.heap.get? b = some o) (X : (hd.heap_39 w.params).In base) (T : Top hd.view_39 (looseW hd.view_39 []) mean mg mb base)
    (he : s.heap.get? e = some (listOf vx.toArray nx)) (hc : s.heap.get? c = some (listOf vy.toArray ny)) (hne : e ≠ c) (be : base.get? e = none) (bc : base.get? c = none)
    (hx : IntsAre vx xs) (hy : IntsAre vy ys) (hlx : xs.length ≤ 200) (hly : ys.length ≤ 200)
    (hdp : dp + 3 < recursionLimit) (hu : un + 200 < cLine)
    (hret : ∀ (t r : Addr) (vr vc : List Value) (nr ne' nc' : Nat) (h' : Heap) (tk' : Nat), UpK (envX cn cs L a ccd cl :: outer) [e, c] s.heap h' → h'.get? t = some { cls := .type "tuple", data := .seq #[.ref r, .ref c] } →
      h'.get? r = some (listOf vr.toArray nr) → IntsAre vr (uldF xs ys).1 → h'.get? c = some (listOf vc.toArray nc') → IntsAre vc (uldF xs ys).2 → h'.get? e = some (listOf (List.toArray []) ne') →
      s.heap.get? t = none → s.heap.get? r = none → t ≠ r → Q (.ref t) { s with heap := h', toks := tk' }) :
    wpAny (model prog w) (ktrTop dp un gd cn cs L a ccd cl outer) (call (.ref 70) [.ref e, .ref c]) Q E s := by
  have hfill : (fun (_ : OpenLaw) (_ : Params → Frag) => True) PySem.Challenge.rw_tr0001_01 hd.heap_39 := by
    k_fill
    trivial
  clear hfill
  refine wpAny_call ?_
  refine' enterU (X.keeps Kb) (T.nolimit.keeps Kb) ?look ?code ?room ?bind ?loc ?cell (fun h₁ hns hk₁ => ?body) ?c1 ?c2 ?c3
  case look => k_is
  case code => k_is
  case room => ktr_room
  case bind => exact BindsTo.of_eq rfl
  case cell => decide
  case loc => exact locs rfl
  case c1 => exact rfl
  case c2 => exact rfl
  case c3 => exact rfl
  have bsz : base.get? s.heap.objs.size = none := by
    cases q : base.get? s.heap.objs.size with
    | none => rfl
    | some o => exact absurd (Heap.lt_size (Kb _ _ q)) (Nat.lt_irrefl _)
  have F' : Fr s.heap s.heap.objs.size h₁ _ := ⟨hns, hk₁, Nat.le_refl _⟩
  have N' : News s.heap s.heap.objs.size h₁ [] := News.nil
  have B' : Below (ktrTop dp un gd cn cs L a ccd cl outer) base (envX cn cs L a ccd cl :: outer) s.heap := below_of rfl Kb FA
  have X' := X.keeps Kb
  have T' := T.keeps Kb
  generalize hL' : s.heap.objs.size = L' at *
  (try dsimp only)
  k_with_none
  k_with "call ref" =>
    refine' uld_u ?FA9 ?Kb9 X T ?he9 ?hc9 hne be bc hx hy hlx hly ?room9 ?_
    case FA9 => exact (FA.keeps hk₁).push hns rfl rfl bsz
    case Kb9 => exact fun b o eb => hk₁ b o (Kb b o eb)
    case he9 => exact hk₁ _ _ he
    case hc9 => exact hk₁ _ _ hc
    case room9 => ktr_room
    intro t9 r9 vr9 vc9 nr9 ne9 nc9 h9 tk9 U9 ht9 hr9 ir9 hc9 ic9 he9 ft9 fr9 tr9
    obtain ⟨gX, FX, NX, XX, TX, lX, f1, f2, f3, kX⟩ := asked_mid Kb X T FA he hc be bc hL' hns hk₁ rfl U9 ht9 hr9 hc9 he9 ft9 fr9 tr9
    (try dsimp only)
    (try k_fold)
  k_with "compareOp NotEq ref ref" =>
    refine' ne_intsK (ns := []) (ms := []) (by is_list) .nil (by is_list) .nil ?units9 ?_
    case units9 => ktr_units
  k_steps
  rename News _ _ _ _ => nE9
  rename Fr _ _ _ _ => fE9
  obtain ⟨u9, c9, e9⟩ := kX _ fE9.keep
  exact hret t9 r9 vr9 vc9 nr9 _ _ _ _ u9 (nE9 _ (List.mem_cons_of_mem _ List.mem_cons_self)).1 (nE9 _ (List.mem_cons_of_mem _ (List.mem_cons_of_mem _ List.mem_cons_self))).1 ir9 c9 ic9 e9 f1 f2 f3
end
end Mine
end
-- B4
section
open PySem PySem.W PyProof.Rows PySem.Spec PySem.Calls
set_option maxRecDepth 100000
set_option maxHeartbeats 8000000
set_option linter.unusedVariables false
namespace Mine

-- the source of one clause: what is taken in turn and how it is bound
structure Src (prog : Program) (w : World) (A : Around) (cenv : Env) (C : Addr) (target : Expr) (I : Addr) (fp wr : List Addr) (n : Nat) (B : Nat → (Str → Option Value) → (Str → Option Value) → Prop) (St : Nat → Heap → Prop) : Prop where
  frame : ∀ i h h', St i h → (∀ b ∈ fp, ∀ o, h.get? b = some o → h'.get? b = some o) → St i h'
  turn : ∀ i (s : Shared) m₁ (Q : Unit → Shared → Prop) (E : Value → Shared → Prop), i < n → St i s.heap → s.heap.Ns C m₁ →
    (∀ h' tk m₂, B i m₁ m₂ → St (i + 1) h' → h'.Ns C m₂ → (∀ b o, b ∉ wr → b ≠ C → s.heap.get? b = some o → h'.get? b = some o) → Q () { s with heap := h', toks := tk }) →
    wpAny (model prog w) A (pyNext (.ref I)) (fun r s₁ => ∃ v, r = some v ∧ wpAny (model prog w) A (letOwnedTupleGo target (.ref I) v) (fun _ s₂ => wpAny (model prog w) A (assign target cenv v) Q E s₂) E s₁) E s
  done : ∀ (s : Shared) (Q : Option Value → Shared → Prop) (E : Value → Shared → Prop), St n s.heap →
    (∀ h' tk, (∀ b o, b ∉ wr → s.heap.get? b = some o → h'.get? b = some o) → Q none { s with heap := h', toks := tk }) → wpAny (model prog w) A (pyNext (.ref I)) Q E s
  self : ∀ i (s : Shared) (Q : Value → Shared → Prop) (E : Value → Shared → Prop), St i s.heap → Q (.ref I) s → wpAny (model prog w) A (pyIter (.ref I)) Q E s

section
variable {prog : Program} {w : World} {A : Around} {cenv : Env} {C I : Addr} {fp wr : List Addr} {n : Nat} {P : Nat → Value → Prop} {St : Nat → Heap → Prop}

theorem Src.name {x : Str} {px : Pos} (W : Walks prog w A I fp wr n P St) (hC : cenv.locals = C) (hf : C ∉ fp) (hx : cenv.kindOf x = some .local) (hk : cenv.scope.kind = .function) :
    Src prog w A cenv C (.Name x px) I fp wr n (fun i m₁ m₂ => ∃ v, P i v ∧ m₂ = fun z => if z = x then some v else m₁ z) St where
  frame := W.frame
  turn := fun i s m₁ Q E hi st hn hQ => by
    subst hC
    refine W.item i s _ E hi st fun v h' tk hP st' hk' => ⟨v, rfl, ?_⟩
    have hw : cenv.locals ∉ wr := fun q => hf (W.sub _ q)
    refine wpAny_of_eq (show letOwnedTupleGo (.Name x px) (.ref I) v = pure () from rfl) ?_
    refine wpAny_assign_Name (wpAny_storeName_local hx (hn.at' fun o e => hk' _ o hw e) (fun h₂ hn₂ hs₂ => ?_) (by rw [hk]; rfl))
    refine hQ h₂ _ _ ⟨v, hP, rfl⟩ (W.frame _ _ _ st' fun b hb o e => hs₂.extBut b o (fun q => hf (q ▸ hb)) e) hn₂ fun b o h1 h2 e => hs₂.extBut b o h2 (hk' b o h1 e)
  done := W.done
  self := W.self

theorem Src.pair {x y : Str} {px py tp : Pos} {k : Nat} {Pt : Nat → Array Value → Prop} {Mid : Nat → Addr → Heap → Prop} (W : WalksT prog w A I fp wr n Pt St Mid) (hh : A.handled = none) (hC : cenv.locals = C) (hf : C ∉ fp)
    (hp : ∀ i vals, Pt i vals → ∃ v₁ v₂, vals = #[v₁, v₂] ∧ P i v₁ ∧ True)
    (hx : cenv.kindOf x = some .local) (hy : cenv.kindOf y = some .local) (hk : cenv.scope.kind = .function) :
    Src prog w A cenv C (.Tuple [.Name x px, .Name y py] k tp) I fp wr n (fun i m₁ m₂ => ∃ v₁ v₂, Pt i #[v₁, v₂] ∧ m₂ = fun z => if z = y then some v₂ else if z = x then some v₁ else m₁ z) St where
  frame := W.frame
  turn := fun i s m₁ Q E hi st hn hQ => by
    subst hC
    refine W.item i s _ E hi st fun T vals h' tk hP hT hTup hM hk' => ⟨.ref T, rfl, ?_⟩
    have hw : cenv.locals ∉ wr := fun q => hf (W.sub _ q)
    obtain ⟨v₁, v₂, rfl, _⟩ := hp i vals hP
    refine W.go _ _ _ i T _ _ _ hM fun h₂ st₂ hk₂ => ?_
    have hT2 : h₂.IsTuple T #[v₁, v₂] := hTup.at fun o e => hk₂ _ o (W.apart _ _ _ hM) e
    have hT3 : IsTup h₂ T #[v₁, v₂] := by obtain ⟨o, a, b, c, d⟩ := hT2; exact ⟨o, a, b, c, d⟩
    refine assign_Tuple_tuple hh hT3 rfl rfl fun h₃ he => ?_
    have he' : ∀ b o, h₂.get? b = some o → h₃.get? b = some o := fun b o e => he b o (Nat.ne_of_lt (Heap.lt_size e)) e
    have n2 : h₃.Ns cenv.locals m₁ := ((hn.at' fun o e => hk' _ o hw e).at' fun o e => hk₂ _ o hw e).at' fun o e => he' _ o e
    refine assignInOrder_cons (wpAny_assign_Name (wpAny_storeName_local hx n2 (fun h₄ hn₄ hs₄ => ?_) (by rw [hk]; rfl)))
    refine assignInOrder_cons (wpAny_assign_Name (wpAny_storeName_local hy hn₄ (fun h₅ hn₅ hs₅ => ?_) (by rw [hk]; rfl)))
    refine assignInOrder_nil ?_
    refine hQ h₅ _ _ ⟨v₁, v₂, hP, rfl⟩ (W.frame _ _ _ st₂ fun b hb o e => hs₅.extBut b o (fun q => hf (q ▸ hb)) (hs₄.extBut b o (fun q => hf (q ▸ hb)) (he' b o e))) hn₅
      fun b o h1 h2 e => hs₅.extBut b o h2 (hs₄.extBut b o h2 (he' b o (hk₂ b o h1 (hk' b o h1 e))))
  done := W.done
  self := W.self
end

-- the list that is made: its object while it grows
abbrev lst := LCg.lst
section
variable {prog : Program} {w : World} {A : Around} {R : Result → Shared → Prop} {elt : Expr} {gens : List Comprehension} {scope : Scope} {pos : Pos} {cenv : Env} {C I D : Addr} {fp wr : List Addr} {n d : Nat} {B : Nat → (Str → Option Value) → (Str → Option Value) → Prop} {St : Nat → Heap → Prop} {target iter : Expr}

abbrev EmitT (e : Expr) (d : Nat) (target : Expr) (sp : Pos) (elt : Expr) (it acc : Value) (env : Env) : Sem Fin :=
  standAt sp >>= fun _ => pyNext it >>= fun r => match r with
    | none => pure (.done .next)
    | some v => letOwnedTupleGo target it v >>= fun _ => assign target env v >>= fun _ =>
      (eval elt env >>= fun x => call (.builtin "list.append") [acc, x] >>= fun _ => pure ()) >>= fun _ => again (.compLoop e d it acc env)

-- what is kept by a clause: all but its own
abbrev Kp (wr : List Addr) (C D : Addr) (h h' : Heap) : Prop := ∀ b o, b ∉ wr → b ≠ C → b ≠ D → h.get? b = some o → h'.get? b = some o

theorem emit_loop {sp : Pos} {s : Shared} {m₁ : Str → Option Value} {ys : List Value} (r : Nat → Int) (W : Src prog w A cenv C target I fp wr n B St)
    (he : compTurn (.ListComp elt gens scope pos) d (.ref I) (.ref D) cenv = EmitT (.ListComp elt gens scope pos) d target sp elt (.ref I) (.ref D) cenv)
    (hDf : D ∉ fp) (hwr : ∀ b ∈ wr, b ∈ fp) (hDC : D ≠ C) (hCw : C ∉ wr) (st0 : St 0 s.heap) (hD : s.heap.get? D = some (lst ys)) (hC : s.heap.Ns C m₁) (hsz : ys.length + n ≤ 1000) (M : (Str → Option Value) → Prop) (hM : M m₁) (hMB : ∀ i m m', M m → B i m m' → M m')
    (turn : ∀ i h tk m₂ m₃ ysv (E' : Value → Shared → Prop), i < n → M m₂ → B i m₂ m₃ → Kp wr C D s.heap h → h.get? D = some (lst ysv) → h.Ns C m₃ →
      wpAny (model prog w) A (eval elt cenv) (fun y s' => ∃ h' tk' t, y = .int (r i) t ∧ s' = { s with heap := h', toks := tk' } ∧ ∀ b o, h.get? b = some o → h'.get? b = some o) E' { s with heap := h, toks := tk })
    (fin : ∀ h tk m₂ zs, IntsAre zs ((List.range n).map r) → Kp wr C D s.heap h → h.get? D = some (lst (ys ++ zs)) → h.Ns C m₂ → M m₂ → R (.ok .next) { s with heap := h, toks := tk }) :
    codeAny (model prog w) A (.compLoop (.ListComp elt gens scope pos) d (.ref I) (.ref D) cenv) R s := by
  have hDw : D ∉ wr := fun q => hDf (hwr _ q)
  refine codeAny_loop rfl (fun k s' => ∃ h' tk i m₂ zs, s' = { s with heap := h', toks := tk } ∧ i ≤ n ∧ k = n + 1 - i ∧ IntsAre zs ((List.range i).map r) ∧ St i h' ∧ Kp wr C D s.heap h' ∧ h'.get? D = some (lst (ys ++ zs)) ∧ h'.Ns C m₂ ∧ M m₂) ?_ (n + 1)
    ⟨s.heap, s.toks, 0, m₁, [], rfl, Nat.zero_le _, rfl, .nil, st0, fun _ _ _ _ _ e => e, by rw [List.append_nil]; exact hD, hC, hM⟩
  rintro k s' ⟨h', tk, i, m₂, zs, rfl, hi, rfl, iz, st, K, hD', hC', hM'⟩
  show wpAny _ A ((compTurn (.ListComp elt gens scope pos) d (.ref I) (.ref D) cenv).onRaise (fun x => do noteFrame x cenv; theTreesLotGoes x)) _ _ _
  refine wpAny_noted ?_
  rw [he]
  refine wpAny_bind (wpAny_standAt (wpAny_bind ?_))
  by_cases hlt : i < n
  · refine wpAny_mono (W.turn i _ m₂ ?q _ hlt st hC' ?a) ?b fun _ _ x => x
    case b =>
      intro rr s₁ hx
      obtain ⟨v, e, hv⟩ := hx
      subst e
      refine wpAny_bind (wpAny_mono hv ?_ fun _ _ x => x)
      intro _ s₂ h₂
      refine wpAny_bind (wpAny_mono h₂ ?_ fun _ _ x => x)
      intro _ s₃ h₃
      exact h₃
    case a =>
      intro h₂ tk₂ m₃ hB st₂ hn₂ hk₂
      have hD2 : h₂.get? D = some (lst (ys ++ zs)) := hk₂ _ _ hDw hDC hD'
      have K2 : Kp wr C D s.heap h₂ := fun b o h1 h2 h3 e => hk₂ b o h1 h2 (K b o h1 h2 h3 e)
      refine wpAny_bind (wpAny_bind (wpAny_mono (turn i h₂ tk₂ m₂ m₃ _ _ hlt hM' hB K2 hD2 hn₂) (fun y s₃ h₃ => ?_) fun _ _ x => x))
      obtain ⟨h₃, tk₃, t, rfl, rfl, k₃⟩ := h₃
      have hzl : zs.length = i := by rw [iz.length, List.length_map, List.length_range]
      have hszz : (ys ++ zs).toArray.size ≤ sizeLine := by
        rw [List.size_toArray, List.length_append, hzl]; exact Nat.le_trans (by omega : ys.length + i ≤ 1000) (by decide)
      refine wpAny_bind (append_at (hsz := hszz) (k₃ _ _ hD2) fun h₄ hs₄ hD₄ => wpAny_pure (wpAny_pure ?_))
      refine ⟨rfl, n + 1 - (i + 1), by omega, h₄, tk₃, i + 1, m₃, zs ++ [.int (r i) t], rfl, hlt, rfl, ?_, W.frame _ _ _ st₂ fun b hb o e => hs₄.extBut b o (fun q => hDf (q ▸ hb)) (k₃ _ _ e),
        fun b o h1 h2 h3 e => hs₄.extBut b o h3 (k₃ _ _ (K2 b o h1 h2 h3 e)), ?_, (hn₂.at' fun o e => k₃ _ _ e).sameBut hs₄ (Ne.symm hDC), hMB _ _ _ hM' hB⟩
      · rw [List.range_succ, List.map_append]
        exact IntsAre.append iz (.cons (r i) t .nil)
      · rw [hD₄, ← List.append_assoc]
        exact congrArg some (LCg.lst_snoc _ _)
  · obtain rfl : i = n := Nat.le_antisymm hi (Nat.not_lt.mp hlt)
    refine W.done _ _ _ st fun h₂ tk₂ hk₂ => wpAny_pure ?_
    exact fin h₂ tk₂ m₂ zs iz (fun b o h1 h2 h3 e => hk₂ b o h1 (K b o h1 h2 h3 e)) (hk₂ _ _ hDw hD') (hC'.at' fun o e => hk₂ _ o hCw e) hM'

abbrev NestT (e : Expr) (target : Expr) (sp : Pos) (iter1 : Expr) (it acc : Value) (env : Env) : Sem Fin :=
  standAt sp >>= fun _ => pyNext it >>= fun r => match r with
    | none => pure (.done .next)
    | some v => letOwnedTupleGo target it v >>= fun _ => assign target env v >>= fun _ =>
      eval iter1 env >>= fun x => standAt iter1.pos >>= fun _ => foldedSetIterable iter1 env x >>= fun x => holding [x] (pyIter x) >>= fun it1 => runOwn (.compStart e 1 it1 acc env) env >>= fun _ => again (.compLoop e 0 it acc env)

theorem nest_loop {sp : Pos} {iter1 : Expr} {s : Shared} {m₁ : Str → Option Value} {ys : List Value} (r : Nat → List Int) (W : Src prog w A cenv C target I fp wr n B St)
    (he : compTurn (.ListComp elt gens scope pos) 0 (.ref I) (.ref D) cenv = NestT (.ListComp elt gens scope pos) target sp iter1 (.ref I) (.ref D) cenv) (hs : ∀ x, foldedSetIterable iter1 cenv x = pure x)
    (hDf : D ∉ fp) (hCf : C ∉ fp) (hwr : ∀ b ∈ wr, b ∈ fp) (hDC : D ≠ C) (st0 : St 0 s.heap) (hD : s.heap.get? D = some (lst ys)) (hC : s.heap.Ns C m₁) (M : (Str → Option Value) → Prop) (hM : M m₁)
    (turn : ∀ i h tk m₂ m₃ zs (E' : Value → Shared → Prop), i < n → IntsAre zs ((List.range i).flatMap r) → M m₂ → B i m₂ m₃ → Kp wr C D s.heap h → h.get? D = some (lst (ys ++ zs)) → h.Ns C m₃ →
      wpAny (model prog w) A (eval iter1 cenv) (fun xv s₁ => wpAny (model prog w) A (pyIter xv) (fun it1 s₂ => codeAny (model prog w) A (.compStart (.ListComp elt gens scope pos) 1 it1 (.ref D) cenv) (fun res s₃ => res = .ok .next ∧
        ∃ h' tk' m₄ us, s₃ = { s with heap := h', toks := tk' } ∧ IntsAre us (r i) ∧ (∀ b o, b ≠ C → b ≠ D → h.get? b = some o → h'.get? b = some o) ∧ h'.get? D = some (lst (ys ++ zs ++ us)) ∧ h'.Ns C m₄ ∧ M m₄) s₂) E' s₁) E' { s with heap := h, toks := tk })
    (fin : ∀ h tk m₂ zs, IntsAre zs ((List.range n).flatMap r) → Kp wr C D s.heap h → h.get? D = some (lst (ys ++ zs)) → h.Ns C m₂ → R (.ok .next) { s with heap := h, toks := tk }) :
    codeAny (model prog w) A (.compLoop (.ListComp elt gens scope pos) 0 (.ref I) (.ref D) cenv) R s := by
  have hDw : D ∉ wr := fun q => hDf (hwr _ q)
  have hCw : C ∉ wr := fun q => hCf (hwr _ q)
  refine codeAny_loop rfl (fun k s' => ∃ h' tk i m₂ zs, s' = { s with heap := h', toks := tk } ∧ i ≤ n ∧ k = n + 1 - i ∧ IntsAre zs ((List.range i).flatMap r) ∧ St i h' ∧ Kp wr C D s.heap h' ∧ h'.get? D = some (lst (ys ++ zs)) ∧ h'.Ns C m₂ ∧ M m₂) ?_ (n + 1)
    ⟨s.heap, s.toks, 0, m₁, [], rfl, Nat.zero_le _, rfl, .nil, st0, fun _ _ _ _ _ e => e, by rw [List.append_nil]; exact hD, hC, hM⟩
  rintro k s' ⟨h', tk, i, m₂, zs, rfl, hi, rfl, iz, st, K, hD', hC', hM'⟩
  show wpAny _ A ((compTurn (.ListComp elt gens scope pos) 0 (.ref I) (.ref D) cenv).onRaise (fun x => do noteFrame x cenv; theTreesLotGoes x)) _ _ _
  refine wpAny_noted ?_
  rw [he]
  refine wpAny_bind (wpAny_standAt (wpAny_bind ?_))
  by_cases hlt : i < n
  · refine wpAny_mono (W.turn i _ m₂ ?q _ hlt st hC' ?a) ?b fun _ _ x => x
    case b =>
      intro rr s₁ hx
      obtain ⟨v, e, hv⟩ := hx
      subst e
      refine wpAny_bind (wpAny_mono hv ?_ fun _ _ x => x)
      intro _ s₂ h₂
      refine wpAny_bind (wpAny_mono h₂ ?_ fun _ _ x => x)
      intro _ s₃ h₃
      exact h₃
    case a =>
      intro h₂ tk₂ m₃ hB st₂ hn₂ hk₂
      have hD2 : h₂.get? D = some (lst (ys ++ zs)) := hk₂ _ _ hDw hDC hD'
      have K2 : Kp wr C D s.heap h₂ := fun b o h1 h2 h3 e => hk₂ b o h1 h2 (K b o h1 h2 h3 e)
      refine wpAny_bind (wpAny_mono (turn i h₂ tk₂ m₂ m₃ _ _ hlt iz hM' hB K2 hD2 hn₂) (fun xv s₃ h₃ => ?_) fun _ _ x => x)
      refine wpAny_bind (wpAny_standAt (wpAny_bind (wpAny_of_eq (hs xv) (wpAny_bind (wpAny_holding (wpAny_mono h₃ (fun it1 s₄ h₄ => ?_) fun _ _ x => x))))))
      refine wpAny_bind (wpAny_runOwn (h := none) (codeAny_mono h₄ fun res s₅ h₅ => ?_))
      obtain ⟨rfl, h₅, tk₅, m₄, us, rfl, iu, k₅, hD₅, hn₅, hM₅⟩ := h₅
      refine wpAny_pure ⟨rfl, n + 1 - (i + 1), by omega, h₅, tk₅, i + 1, m₄, zs ++ us, rfl, hlt, rfl, ?_, W.frame _ _ _ st₂ fun b hb o e => k₅ b o (fun q => hCf (q ▸ hb)) (fun q => hDf (q ▸ hb)) e,
        fun b o h1 h2 h3 e => k₅ b o h2 h3 (K2 b o h1 h2 h3 e), by rw [← List.append_assoc]; exact hD₅, hn₅, hM₅⟩
      rw [List.range_succ, List.flatMap_append]
      have := IntsAre.append iz iu
      simpa using this
  · obtain rfl : i = n := Nat.le_antisymm hi (Nat.not_lt.mp hlt)
    refine W.done _ _ _ st fun h₂ tk₂ hk₂ => wpAny_pure ?_
    exact fin h₂ tk₂ m₂ zs iz (fun b o h1 h2 h3 e => hk₂ b o h1 (K b o h1 h2 h3 e)) (hk₂ _ _ hDw hD') (hC'.at' fun o e => hk₂ _ o hCw e)

theorem start_1 {t0 i0 t1 i1 : Expr} {it acc : Value} {env : Env} {s : Shared}
    (h0 : codeAny (model prog w) A (.compLoop (.ListComp elt [⟨t0, i0, [], 0⟩, ⟨t1, i1, [], 0⟩] scope pos) 1 it acc env) R s)
    (h : wpAny (model prog w) A (pyIter it) (fun it' s' => codeAny (model prog w) A (.compLoop (.ListComp elt [⟨t0, i0, [], 0⟩, ⟨t1, i1, [], 0⟩] scope pos) 1 it' acc env) R s')
      (notedBy (model prog w) A env fun x s' => R (.error x) s') s) :
    codeAny (model prog w) A (.compStart (.ListComp elt [⟨t0, i0, [], 0⟩, ⟨t1, i1, [], 0⟩] scope pos) 1 it acc env) R s := by
  refine codeAny_of_tree ?_
  show wpAny _ A ((compStart (.ListComp elt [⟨t0, i0, [], 0⟩, ⟨t1, i1, [], 0⟩] scope pos) 1 it acc env).onRaise (fun x => do noteFrame x env; standAt theWindowsPlace)) _ _ s
  refine wpAny_notedAt ?_
  unfold compStart
  show wpAny _ A (ask >>= _) _ _ s
  refine wpAny_bind (wpAny_askSetting (wpAny_ite ?_))
  split
  · exact wpAny_bind (wpAny_pure (wpAny_pure (And.intro rfl h0)))
  · refine wpAny_bind (wpAny_rule ?_)
    show wpAny _ _ (standAt i1.pos >>= _) _ _ s
    exact wpAny_bind (wpAny_standAt (wpAny_bind (wpAny_mono h (fun it' s' h' => wpAny_pure (And.intro rfl h')) fun _ _ x => x)))
end
end Mine
end
-- B5
section
open PySem PySem.W PyProof.Rows PySem.Spec PySem.Calls
set_option maxRecDepth 100000
set_option maxHeartbeats 8000000
set_option linter.unusedVariables false
namespace Mine
section
variable {prog : Program} {w : World} {A : Around} {E : Value → Shared → Prop} {s : Shared} {h₀ : Heap} {L : Addr} {m : Str → Option Value} {env : Env} {news : List (Addr × Obj)}
  {elt t0 i0 : Expr} {gs : List Comprehension} {scope : Scope} {cl : List (Str × Addr)} {pos : Pos} {zs : List Int}

abbrev CompRun (prog : Program) (w : World) (A : Around) (E : Value → Shared → Prop) (s : Shared) (env : Env) (elt t0 i0 : Expr) (gs : List Comprehension) (scope : Scope) (cl : List (Str × Addr)) (pos : Pos) (zs : List Int) : Prop :=
  wpAny (model prog w) A (eval i0 env) (fun xv s₁ => wpAny (model prog w) A (pyIter xv) (fun it s₂ => ∃ h2 tk2, s₂ = { s with heap := h2, toks := tk2 } ∧ (∀ b o, s.heap.get? b = some o → h2.get? b = some o) ∧
    ∀ D C h₁ tk₁ (R : Result → Shared → Prop), h2.objs.size ≤ D → h2.objs.size ≤ C → D ≠ C → (∀ b o, h2.get? b = some o → h₁.get? b = some o) → h₁.get? D = some (lst []) → h₁.Ns C (fun _ => none) →
      (∀ h tk m' vs, IntsAre vs zs → h.get? D = some (lst vs) → h.Ns C m' → (∀ b o, s.heap.get? b = some o → h.get? b = some o) → R (.ok .next) { s with heap := h, toks := tk }) →
      codeAny (model prog w) A (.compStart (.ListComp elt (⟨t0, i0, [], 0⟩ :: gs) scope pos) 0 it (.ref D) (compEnvC scope cl C env)) R { s with heap := h₁, toks := tk₁ }) E s₁) E s

theorem comp_block {RR : Value → Addr → Result → Shared → Prop} {it : Value} {s₂ : Shared} {h2 : Heap} {tk2 : Nat} (e2 : s₂ = { s with heap := h2, toks := tk2 })
    (hcell : ∀ z ∈ scope.names, z.2 ≠ .cell) (hkind : scope.kind = .function)
    (run : ∀ D C h₁ tk₁ (R : Result → Shared → Prop), h2.objs.size ≤ D → h2.objs.size ≤ C → D ≠ C → (∀ b o, h2.get? b = some o → h₁.get? b = some o) → h₁.get? D = some (lst []) → h₁.Ns C (fun _ => none) →
      (∀ h tk m' vs, IntsAre vs zs → h.get? D = some (lst vs) → h.Ns C m' → (∀ b o, s.heap.get? b = some o → h.get? b = some o) → R (.ok .next) { s with heap := h, toks := tk }) →
      codeAny (model prog w) A (.compStart (.ListComp elt (⟨t0, i0, [], 0⟩ :: gs) scope pos) 0 it (.ref D) (compEnvC scope cl C env)) R { s with heap := h₁, toks := tk₁ })
    (fin : ∀ D C h tk m' vs, h2.objs.size ≤ D → h2.objs.size ≤ C → D ≠ C → IntsAre vs zs → h.get? D = some (lst vs) → h.Ns C m' → (∀ b o, s.heap.get? b = some o → h.get? b = some o) → RR (.ref D) C (.ok .next) { s with heap := h, toks := tk }) :
    wpAny (model prog w) A (newList []) (fun acc s₃ => wpAny (model prog w) A (newFunctionEnv scope env.globals cl [] env.qual none .none (some env)) (fun cenv s₄ =>
      codeAny (model prog w) A (.compStart (.ListComp elt (⟨t0, i0, [], 0⟩ :: gs) scope pos) 0 it acc { cenv with scope := relabel scope env }) (RR acc cenv.locals) s₄) E s₃) E s₂ := by
  subst e2
  refine wpAny_newObj_type (wpAny_newFunctionEnv hcell (by intro y hy; simp at hy) (fun h₁ hns₁ hsb₁ => ?_) hkind)
  dsimp only at hns₁ hsb₁ ⊢
  generalize hH2 : h2.push { cls := .type "list", dict := none, data := .seq ([] : List Value).toArray } = H2 at hns₁ hsb₁ ⊢
  have hC : H2.objs.size = h2.objs.size + 1 := by rw [← hH2, Heap.size_push]
  have hDC : h2.objs.size ≠ H2.objs.size := by rw [hC]; exact Nat.ne_of_lt (Nat.lt_succ_self _)
  have old : ∀ b o, h2.get? b = some o → h₁.get? b = some o := fun b o e =>
    hsb₁.extBut b o (by rw [hC]; exact Nat.ne_of_lt (Nat.lt_succ_of_lt (Heap.lt_size e))) (Heap.get?_push_of_some _ (hH2 ▸ Heap.get?_push_of_some _ e))
  have hacc : h₁.get? h2.objs.size = some (lst []) := hsb₁.extBut _ _ hDC (Heap.get?_push_of_some _ (hH2 ▸ Heap.get?_push_size _ rfl))
  refine run h2.objs.size H2.objs.size h₁ _ (RR (.ref h2.objs.size) H2.objs.size) (Nat.le_refl _) (by rw [hC]; exact Nat.le_succ _) hDC old hacc hns₁ ?_
  intro h tk m' vs iz hD hn K
  exact fin _ _ h tk m' vs (Nat.le_refl _) (by rw [hC]; exact Nat.le_succ _) hDC iz hD hn K

theorem none_ge {h h2 : Heap} {a : Addr} (k : ∀ b o, h.get? b = some o → h2.get? b = some o) (ha : h2.objs.size ≤ a) : h.get? a = none := by
  cases q : h.get? a with
  | none => rfl
  | some o => exact absurd (Heap.lt_size (k _ _ q)) (Nat.not_lt.mpr ha)

theorem comp_assign {y : Str} {py spos : Pos} {Q : Flow → Shared → Prop} (F : Fr h₀ L s.heap m) (N : News h₀ L s.heap news) (hLe : env.locals = L)
    (hsw : swapsWith (.ListComp elt (⟨t0, i0, [], 0⟩ :: gs) scope pos) (some (.Name y py)) spos.line env = pure true)
    (hclos : closureFor scope env = pure cl) (hcell : ∀ z ∈ scope.names, z.2 ≠ .cell) (hkind : scope.kind = .function)
    (hnames : ∀ z ∈ scope.names, z.2 = .local → scope.names.lookup z.1 = some .local)
    (hy : env.kindOf y = some .local) (hp : (env.scope.kind == .class || (env.scope.kind == .module && env.locals != env.globals)) = false)
    (hs : ∀ x, foldedSetIterable i0 env x = pure x)
    (run : CompRun prog w A E s env elt t0 i0 gs scope cl pos zs)
    (fin : ∀ D h tk vs, Fr h₀ L h (fun z => if z = y then some (.ref D) else m z) → News h₀ L h ((D, lst vs) :: news) → (∀ p ∈ news, p.1 < D) → IntsAre vs zs → Q .next { s with heap := h, toks := tk }) :
    wpAny (model prog w) A (exec (.Assign [.Name y py] (.ListComp elt (⟨t0, i0, [], 0⟩ :: gs) scope pos) spos) env) Q E s := by
  subst hLe
  rw [exec_Assign_Name_used _ _ _ _ hsw]
  refine wpAny_bind (wpAny_standAt (wpAny_bind ?_))
  show wpAny _ A (do let _ ← comprehension (.ListComp elt (⟨t0, i0, [], 0⟩ :: gs) scope pos) scope env _ (newList []) false (eval i0 env) (some (assign (.Name y py) env))) _ _ s
  refine wpAny_bind (wpAny_mono (wpAny_comprehension_free (use := some (assign (.Name y py) env)) (Q := fun _ s' => Q .next s') rfl hs hclos hkind hnames
    (wpAny_mono run (fun xv s₁ h₁ => wpAny_mono h₁ (fun it s₂ h₂ => ?_) fun _ _ e => e) fun _ _ e => e)) (fun _ s' hq => wpAny_pure (wpAny_pure hq)) fun _ _ e => e)
  obtain ⟨h2, tk2, e2, k2, run'⟩ := h₂
  refine comp_block e2 hcell hkind run' ?_
  intro D C h tk m' vs hD hC hDC iz hDh hn K
  have nD := none_ge k2 hD
  have nC := none_ge k2 hC
  have gD : h₀.get? D = none := none_base F.keep nD
  have gC : h₀.get? C = none := none_base F.keep nC
  have hLlt : env.locals < h2.objs.size := by
    obtain ⟨oL, es, ep, q, _⟩ := F.ns
    exact Heap.lt_size (k2 _ _ q)
  have hLD : env.locals ≠ D := Nat.ne_of_lt (Nat.lt_of_lt_of_le hLlt hD)
  have hLC : env.locals ≠ C := Nat.ne_of_lt (Nat.lt_of_lt_of_le hLlt hC)
  show wpAny _ A (assign (.Name y py) env (.ref D)) _ _ _
  refine wpAny_assign_Name (wpAny_storeName_local hy (F.ns.at' fun o e => K _ o e) (fun h₃ hn₃ hs₃ => ?_) hp)
  have hL₀ : h₀.get? env.locals = none := Heap.get?_none_of_le F.above
  have F₃ : Fr h₀ env.locals h₃ (fun z => if z = y then some (.ref D) else m z) := ⟨hn₃, fun b o e => hs₃.extBut b o (fun q => by rw [q, hL₀] at e; cases e) (K _ _ (F.keep b o e)), F.above⟩
  refine ⟨m', hn.sameBut hs₃ (Ne.symm hLC), fun h'' hs'' => fin D h'' _ vs (F₃.change hs'' (Ne.symm hLC) gC) (fun p hp => ?_) (fun p hp => ?_) iz⟩
  · rcases List.mem_cons.mp hp with rfl | hp
    · exact ⟨hs''.extBut _ _ hDC (hs₃.extBut _ _ (Ne.symm hLD) hDh), Ne.symm hLD, gD⟩
    · have z := N p hp
      exact ⟨hs''.extBut _ _ (fun q => by rw [q, nC] at z; exact absurd z.1 (by simp)) (hs₃.extBut _ _ z.2.1 (K _ _ z.1)), z.2⟩
  · exact Nat.lt_of_lt_of_le (Heap.lt_size (k2 _ _ (N p hp).1)) hD

theorem comp_expr {Q : Value → Shared → Prop} (F : Fr h₀ L s.heap m) (N : News h₀ L s.heap news)
    (hclos : closureFor scope env = pure cl) (hcell : ∀ z ∈ scope.names, z.2 ≠ .cell) (hkind : scope.kind = .function)
    (hnames : ∀ z ∈ scope.names, z.2 = .local → scope.names.lookup z.1 = some .local)
    (hs : ∀ x, foldedSetIterable i0 env x = pure x)
    (run : CompRun prog w A E s env elt t0 i0 gs scope cl pos zs)
    (fin : ∀ D h tk vs, Fr h₀ L h m → News h₀ L h ((D, lst vs) :: news) → (∀ p ∈ news, p.1 < D) → s.heap.get? D = none → IntsAre vs zs → Q (.ref D) { s with heap := h, toks := tk }) :
    wpAny (model prog w) A (eval (.ListComp elt (⟨t0, i0, [], 0⟩ :: gs) scope pos) env) Q E s := by
  rw [eval_ListComp]
  refine wpAny_comprehension_free (use := none) rfl hs hclos hkind hnames (wpAny_mono run (fun xv s₁ h₁ => wpAny_mono h₁ (fun it s₂ h₂ => ?_) fun _ _ e => e) fun _ _ e => e)
  obtain ⟨h2, tk2, e2, k2, run'⟩ := h₂
  refine comp_block e2 hcell hkind run' ?_
  intro D C h tk m' vs hD hC hDC iz hDh hn K
  have nD := none_ge k2 hD
  have nC := none_ge k2 hC
  have gD : h₀.get? D = none := none_base F.keep nD
  have gC : h₀.get? C = none := none_base F.keep nC
  have hLlt : L < h2.objs.size := by
    obtain ⟨oL, es, ep, q, _⟩ := F.ns
    exact Heap.lt_size (k2 _ _ q)
  have hLD : L ≠ D := Nat.ne_of_lt (Nat.lt_of_lt_of_le hLlt hD)
  have hLC : L ≠ C := Nat.ne_of_lt (Nat.lt_of_lt_of_le hLlt hC)
  refine ⟨m', hn, fun h'' hs'' => fin D h'' _ vs ((F.keeps K).change hs'' (Ne.symm hLC) gC) (fun p hp => ?_) (fun p hp => ?_) nD iz⟩
  · rcases List.mem_cons.mp hp with rfl | hp
    · exact ⟨hs''.extBut _ _ hDC hDh, Ne.symm hLD, gD⟩
    · have z := N p hp
      exact ⟨hs''.extBut _ _ (fun q => by rw [q, nC] at z; exact absurd z.1 (by simp)) (K _ _ z.1), z.2⟩
  · exact Nat.lt_of_lt_of_le (Heap.lt_size (k2 _ _ (N p hp).1)) hD
end
end Mine
end
-- B6
section
open PySem PySem.W PyProof.Rows PySem.Spec PySem.Calls
set_option maxRecDepth 100000
set_option maxHeartbeats 8000000
set_option linter.unusedVariables false
namespace Mine
section
variable {prog : Program} {w : World} {A : Around} {E : Value → Shared → Prop} {s : Shared} {h₀ : Heap} {L : Addr} {m : Str → Option Value} {env : Env} {news : List (Addr × Obj)}
  {elt t0 i0 : Expr} {gs : List Comprehension} {scope : Scope} {cl : List (Str × Addr)} {pos : Pos} {zs : List Int}

abbrev CompTail (prog : Program) (w : World) (A : Around) (s : Shared) (env : Env) (elt t0 i0 : Expr) (gs : List Comprehension) (scope : Scope) (cl : List (Str × Addr)) (pos : Pos) (zs : List Int) (it : Value) (s₂ : Shared) : Prop :=
  ∃ h2 tk2, s₂ = { s with heap := h2, toks := tk2 } ∧ (∀ b o, s.heap.get? b = some o → h2.get? b = some o) ∧
    ∀ D C h₁ tk₁ (R : Result → Shared → Prop), h2.objs.size ≤ D → h2.objs.size ≤ C → D ≠ C → (∀ b o, h2.get? b = some o → h₁.get? b = some o) → h₁.get? D = some (lst []) → h₁.Ns C (fun _ => none) →
      (∀ h tk m' vs, IntsAre vs zs → h.get? D = some (lst vs) → h.Ns C m' → (∀ b o, s.heap.get? b = some o → h.get? b = some o) → R (.ok .next) { s with heap := h, toks := tk }) →
      codeAny (model prog w) A (.compStart (.ListComp elt (⟨t0, i0, [], 0⟩ :: gs) scope pos) 0 it (.ref D) (compEnvC scope cl C env)) R { s with heap := h₁, toks := tk₁ }

def ElPost (s : Shared) (h : Heap) (z : Int) (y : Value) (s' : Shared) : Prop :=
  ∃ h' tk' t, y = .int z t ∧ s' = { s with heap := h', toks := tk' } ∧ ∀ b o, h.get? b = some o → h'.get? b = some o
theorem elp {h h' : Heap} {z y : Int} {t : Tok} {tk' : Nat} (e : y = z) (k : GSub h h' []) : ElPost s h z (.int y t) { s with heap := h', toks := tk' } := ⟨h', tk', t, by rw [e], rfl, kept_keep k⟩

theorem ns_split {h : Heap} {C : Addr} {m : Str → Option Value} (n : h.Ns C m) : ∃ o, h.get? C = some o ∧ LCg.NsObj o m := LCg.ns_obj n

theorem comp_news {h : Heap} {C D : Addr} {oC : Obj} {ysv : List Value} (F : Fr h₀ L s.heap m) (N : News h₀ L s.heap news) (k : ∀ b o, s.heap.get? b = some o → h.get? b = some o) (nD : s.heap.get? D = none) (nC : s.heap.get? C = none)
    (hC : h.get? C = some oC) (hD : h.get? D = some (lst ysv)) : News h₀ L h ((C, oC) :: (D, lst ysv) :: news) := by
  obtain ⟨oL, es, ep, q, _⟩ := F.ns
  intro p hp
  rcases List.mem_cons.mp hp with rfl | hp
  · exact ⟨hC, ne_none nC q, none_base F.keep nC⟩
  rcases List.mem_cons.mp hp with rfl | hp
  · exact ⟨hD, ne_none nD q, none_base F.keep nD⟩
  · exact ⟨k _ _ (N p hp).1, (N p hp).2⟩

theorem tail1 {I : Addr} {fp wr : List Addr} {n : Nat} {B : Nat → (Str → Option Value) → (Str → Option Value) → Prop} {St : Nat → Heap → Prop} {h2 : Heap} {tk2 : Nat} (r : Nat → Int) (k2 : ∀ b o, s.heap.get? b = some o → h2.get? b = some o)
    (F : Fr h₀ L s.heap m) (N : News h₀ L s.heap news)
    (Wf : ∀ C, C ∉ fp → Src prog w A (compEnvC scope cl C env) C t0 I fp wr n B St) (fpl : ∀ b ∈ fp, b < h2.objs.size) (hwr : ∀ b ∈ wr, b ∈ fp) (wrn : ∀ b ∈ wr, s.heap.get? b = none) (st : St 0 h2) (hn : n ≤ 1000)
    (turn : ∀ i h tk C D oC m₂ m₃ ysv (E' : Value → Shared → Prop), i < n → B i m₂ m₃ → LCg.NsObj oC m₃ → Fr h₀ L h m → News h₀ L h ((C, oC) :: (D, lst ysv) :: news) → (∀ b o, s.heap.get? b = some o → h.get? b = some o) →
      wpAny (model prog w) A (eval elt (compEnvC scope cl C env)) (ElPost s h (r i)) E' { s with heap := h, toks := tk }) :
    CompTail prog w A s env elt t0 i0 [] scope cl pos ((List.range n).map r) (.ref I) { s with heap := h2, toks := tk2 } := by
  refine ⟨h2, tk2, rfl, k2, ?_⟩
  intro D C h₁ tk₁ R hD hC hDC k₁ hDh hn₁ fin
  have hDf : D ∉ fp := fun q => absurd (fpl _ q) (Nat.not_lt.mpr hD)
  have hCf : C ∉ fp := fun q => absurd (fpl _ q) (Nat.not_lt.mpr hC)
  have W := Wf C hCf
  have st₁ : St 0 h₁ := W.frame _ _ _ st fun b hb o e => k₁ b o e
  have nD := none_ge k2 hD
  have nC := none_ge k2 hC
  have up : ∀ h, Kp wr C D h₁ h → ∀ b o, s.heap.get? b = some o → h.get? b = some o := fun h K b o e =>
    K b o (fun q => by rw [wrn b q] at e; cases e) (fun q => by rw [q, nC] at e; cases e) (fun q => by rw [q, nD] at e; cases e) (k₁ _ _ (k2 _ _ e))
  have loop : codeAny (model prog w) A (.compLoop (.ListComp elt [⟨t0, i0, [], 0⟩] scope pos) 0 (.ref I) (.ref D) (compEnvC scope cl C env)) R { s with heap := h₁, toks := tk₁ } := by
    refine emit_loop (s := { s with heap := h₁, toks := tk₁ }) (ys := []) r W (by rfl) hDf hwr hDC (fun q => hCf (hwr _ q)) st₁ hDh hn₁ (by simpa using hn) (fun _ => True) trivial (fun _ _ _ _ _ => trivial) ?_ ?_
    · intro i h tk m₂ m₃ ysv E' hi _ hB K hDv hnv
      obtain ⟨oC, hCv, hO⟩ := ns_split hnv
      have kk := up h K
      exact turn i h tk C D oC m₂ m₃ ysv E' hi hB hO (F.keeps kk) (comp_news F N kk nD nC hCv hDv) kk
    · intro h tk m₂ vs iz K hDv hnv _
      rw [List.nil_append] at hDv
      exact fin h tk m₂ vs iz hDv hnv (up h K)
  exact codeAny_compStart_list loop (W.self 0 _ _ _ st₁ loop)

theorem tail2 {I : Addr} {fp wr : List Addr} {n : Nat} {B : Nat → (Str → Option Value) → (Str → Option Value) → Prop} {St : Nat → Heap → Prop} {h2 : Heap} {tk2 : Nat} {t1 i1 : Expr} (r : Nat → List Int) (k2 : ∀ b o, s.heap.get? b = some o → h2.get? b = some o)
    (F : Fr h₀ L s.heap m) (N : News h₀ L s.heap news)
    (Wf : ∀ C, C ∉ fp → Src prog w A (compEnvC scope cl C env) C t0 I fp wr n B St) (fpl : ∀ b ∈ fp, b < h2.objs.size) (hwr : ∀ b ∈ wr, b ∈ fp) (wrn : ∀ b ∈ wr, s.heap.get? b = none) (st : St 0 h2)
    (hs : ∀ C x, foldedSetIterable i1 (compEnvC scope cl C env) x = pure x) (hr : ∀ i, i ≤ n → ((List.range i).flatMap r).length ≤ 500)
    (turn : ∀ i h tk C D oC m₂ m₃ ysv (E' : Value → Shared → Prop), i < n → B i m₂ m₃ → LCg.NsObj oC m₃ → Fr h₀ L h m → News h₀ L h ((C, oC) :: (D, lst ysv) :: news) → (∀ b o, s.heap.get? b = some o → h.get? b = some o) →
      wpAny (model prog w) A (eval i1 (compEnvC scope cl C env)) (fun xv s₁ => wpAny (model prog w) A (pyIter xv) (fun it1 s₂ => ∃ I1 fp1 wr1 n1 B1 St1 h3 tk3 x1 r1, it1 = .ref I1 ∧ s₂ = { s with heap := h3, toks := tk3 } ∧ (∀ b o, h.get? b = some o → h3.get? b = some o) ∧
        (C ∉ fp1 → Src prog w A (compEnvC scope cl C env) C t1 I1 fp1 wr1 n1 B1 St1) ∧ C ∉ fp1 ∧ D ∉ fp1 ∧ (∀ b ∈ wr1, b ∈ fp1) ∧ (∀ b ∈ wr1, h.get? b = none) ∧ St1 0 h3 ∧ n1 ≤ 500 ∧ (List.range n1).map r1 = r i ∧ (∀ j m m', B1 j m m' → ∀ z, z ≠ x1 → m' z = m z) ∧
        ∀ j h' tk' oC' m₄ m₅ ysv' (E'' : Value → Shared → Prop), j < n1 → (∀ z, z ≠ x1 → m₄ z = m₃ z) → B1 j m₄ m₅ → LCg.NsObj oC' m₅ → Fr h₀ L h' m → News h₀ L h' ((C, oC') :: (D, lst ysv') :: news) → (∀ b o, s.heap.get? b = some o → h'.get? b = some o) →
          wpAny (model prog w) A (eval elt (compEnvC scope cl C env)) (ElPost s h' (r1 j)) E'' { s with heap := h', toks := tk' }) E' s₁) E' { s with heap := h, toks := tk }) :
    CompTail prog w A s env elt t0 i0 [⟨t1, i1, [], 0⟩] scope cl pos ((List.range n).flatMap r) (.ref I) { s with heap := h2, toks := tk2 } := by
  refine ⟨h2, tk2, rfl, k2, ?_⟩
  intro D C h₁ tk₁ R hD hC hDC k₁ hDh hn₁ fin
  have hDf : D ∉ fp := fun q => absurd (fpl _ q) (Nat.not_lt.mpr hD)
  have hCf : C ∉ fp := fun q => absurd (fpl _ q) (Nat.not_lt.mpr hC)
  have W := Wf C hCf
  have st₁ : St 0 h₁ := W.frame _ _ _ st fun b hb o e => k₁ b o e
  have nD := none_ge k2 hD
  have nC := none_ge k2 hC
  have up : ∀ h, Kp wr C D h₁ h → ∀ b o, s.heap.get? b = some o → h.get? b = some o := fun h K b o e =>
    K b o (fun q => by rw [wrn b q] at e; cases e) (fun q => by rw [q, nC] at e; cases e) (fun q => by rw [q, nD] at e; cases e) (k₁ _ _ (k2 _ _ e))
  have loop : codeAny (model prog w) A (.compLoop (.ListComp elt [⟨t0, i0, [], 0⟩, ⟨t1, i1, [], 0⟩] scope pos) 0 (.ref I) (.ref D) (compEnvC scope cl C env)) R { s with heap := h₁, toks := tk₁ } := by
    refine nest_loop (s := { s with heap := h₁, toks := tk₁ }) (ys := []) r W (by rfl) (hs C) hDf hCf hwr hDC st₁ hDh hn₁ (fun _ => True) trivial ?_ ?_
    · intro i h tk m₂ m₃ zs E' hi iz _ hB K hDv hnv
      rw [List.nil_append] at hDv
      obtain ⟨oC, hCv, hO⟩ := ns_split hnv
      have kk := up h K
      refine wpAny_mono (turn i h tk C D oC m₂ m₃ zs E' hi hB hO (F.keeps kk) (comp_news F N kk nD nC hCv hDv) kk) (fun xv s₁ h₁' => wpAny_mono h₁' (fun it1 s₂ h₂' => ?_) fun _ _ x => x) fun _ _ x => x
      obtain ⟨I1, fp1, wr1, n1, B1, St1, h3, tk3, x1, r1, rfl, rfl, k3, W1', hC1, hD1, hw1, hwn1, st1, hn1, hr1, hB1, el⟩ := h₂'
      have W1 := W1' hC1
      have hDv3 := k3 _ _ hDv
      have hnv3 : h3.Ns C m₃ := hnv.at' fun o e => k3 _ _ e
      have hzl : zs.length ≤ 500 := by rw [iz.length]; exact hr i (Nat.le_of_lt hi)
      have loop1 : codeAny (model prog w) A (.compLoop (.ListComp elt [⟨t0, i0, [], 0⟩, ⟨t1, i1, [], 0⟩] scope pos) 1 (.ref I1) (.ref D) (compEnvC scope cl C env)) (fun res s₃ => res = .ok .next ∧
          ∃ h' tk' m₄ us, s₃ = { ({ s with heap := h₁, toks := tk₁ } : Shared) with heap := h', toks := tk' } ∧ IntsAre us (r i) ∧ (∀ b o, b ≠ C → b ≠ D → h.get? b = some o → h'.get? b = some o) ∧ h'.get? D = some (lst ([] ++ zs ++ us)) ∧ h'.Ns C m₄ ∧ True)
          { s with heap := h3, toks := tk3 } := by
        refine emit_loop (s := { s with heap := h3, toks := tk3 }) (ys := zs) r1 W1 (by rfl) hD1 hw1 hDC (fun q => hC1 (hw1 _ q)) st1 hDv3 hnv3 (by omega) (fun m' => ∀ z, z ≠ x1 → m' z = m₃ z) (fun _ _ => rfl) (fun j ma mb h1 h2 z hz => (hB1 j ma mb h2 z hz).trans (h1 z hz)) ?_ ?_
        · intro j h' tk' m₄ m₅ ysv' E'' hj hM4 hB4 K' hDv' hnv'
          obtain ⟨oC', hCv', hO'⟩ := ns_split hnv'
          have kk' : ∀ b o, s.heap.get? b = some o → h'.get? b = some o := fun b o e =>
            K' b o (fun q => by have := kk _ _ e; rw [hwn1 b q] at this; cases this) (fun q => by rw [q, nC] at e; cases e) (fun q => by rw [q, nD] at e; cases e) (k3 _ _ (kk _ _ e))
          exact el j h' tk' oC' m₄ m₅ ysv' E'' hj hM4 hB4 hO' (F.keeps kk') (comp_news F N kk' nD nC hCv' hDv') kk'
        · intro h' tk' m₄ us iu K' hDv' hnv' _
          refine ⟨rfl, h', tk', m₄, us, rfl, hr1 ▸ iu, fun b o h1 h2 e => K' b o (fun q => by rw [hwn1 b q] at e; cases e) h1 h2 (k3 _ _ e), by rw [List.nil_append]; exact hDv', hnv', trivial⟩
      exact start_1 loop1 (W1.self 0 _ _ _ st1 loop1)
    · intro h tk m₂ vs iz K hDv hnv
      rw [List.nil_append] at hDv
      exact fin h tk m₂ vs iz hDv hnv (up h K)
  exact codeAny_compStart_list loop (W.self 0 _ _ _ st₁ loop)
end
end Mine
end
-- B7
section
open PySem PySem.W PyProof.Rows PySem.Spec PySem.Calls
set_option maxRecDepth 100000
set_option maxHeartbeats 8000000
set_option linter.unusedVariables false
namespace Mine

theorem pt_enum {vs : List Value} {ns : List Int} {i : Nat} {v₁ v₂ : Value} (hi : IntsAre vs ns) (h : ∃ t x, vs.toArray[i]? = some x ∧ #[v₁, v₂] = #[.int (i : Int) t, x]) : ∃ t u, v₁ = .int (i : Int) t ∧ v₂ = .int (ns.getD i 0) u ∧ i < ns.length := by
  obtain ⟨t, x, e, q⟩ := h
  have q1 := congrArg Array.toList q
  simp only [List.cons.injEq, and_true] at q1
  have e' : vs[i]? = some x := by simpa using e
  obtain ⟨k, u, e2, hk⟩ := IntsAre.at hi i x e'
  refine ⟨t, u, q1.1, ?_, ?_⟩
  · rw [q1.2, e2]
    rw [List.getD_eq_getElem?_getD, hk]; rfl
  · exact (List.getElem?_eq_some_iff.mp hk).1
theorem pt_list {vs : List Value} {ns : List Int} {i : Nat} {v : Value} (hi : IntsAre vs ns) (h : vs.toArray[i]? = some v) : ∃ u, v = .int (ns.getD i 0) u ∧ i < ns.length := by
  have e' : vs[i]? = some v := by simpa using h
  obtain ⟨k, u, e2, hk⟩ := IntsAre.at hi i v e'
  exact ⟨u, by rw [e2, List.getD_eq_getElem?_getD, hk]; rfl, (List.getElem?_eq_some_iff.mp hk).1⟩

section
variable {prog : Program} {w : World} {A : Around} {E : Value → Shared → Prop} {s : Shared} {h₀ : Heap} {L : Addr} {m : Str → Option Value} {env : Env} {news : List (Addr × Obj)}
  {elt t0 i0 : Expr} {gs : List Comprehension} {scope : Scope} {cl : List (Str × Addr)} {pos : Pos} {zs : List Int}

theorem tail_enum {l : Addr} {vs : List Value} {ns : List Int} {x y : Str} {px py tp : Pos} {k : Nat} {h9 : Heap} {tk9 : Nat} (r : Nat → Int) (hl : s.heap.IsList l vs.toArray) (hi : IntsAre vs ns) (hn : ns.length ≤ 1000) (hh : A.handled = none) (F : Fr h₀ L s.heap m) (N : News h₀ L s.heap news)
    (hx : ∀ C, (compEnvC scope cl C env).kindOf x = some .local) (hy : ∀ C, (compEnvC scope cl C env).kindOf y = some .local) (hk : scope.kind = .function) (hxy : x ≠ y)
    (he9 : IsEnum h9 (s.heap.objs.size + 1) s.heap.objs.size 0 .none) (hit9 : h9.IsListIter s.heap.objs.size l 0) (hz9 : h9.objs.size = s.heap.objs.size + 2) (hk9 : ∀ b o, s.heap.get? b = some o → h9.get? b = some o)
    (turn : ∀ i h tk C D oC m₃ t u ysv (E' : Value → Shared → Prop), i < ns.length → LCg.NsObj oC m₃ → m₃ x = some (.int (i : Int) t) → m₃ y = some (.int (ns.getD i 0) u) → Fr h₀ L h m → News h₀ L h ((C, oC) :: (D, lst ysv) :: news) → (∀ b o, s.heap.get? b = some o → h.get? b = some o) →
      wpAny (model prog w) A (eval elt (compEnvC scope cl C env)) (ElPost s h (r i)) E' { s with heap := h, toks := tk }) :
    wpAny (model prog w) A (pyIter (.ref (s.heap.objs.size + 1))) (fun it s₂ => CompTail prog w A s env elt (.Tuple [.Name x px, .Name y py] k tp) i0 [] scope cl pos ((List.range ns.length).map r) it s₂) E { s with heap := h9, toks := tk9 } := by
  have hlt : l < s.heap.objs.size := by obtain ⟨o, e, _⟩ := hl; exact Heap.lt_size e
  refine wpAny_pyIter_enum he9 ?_
  have hsz : vs.toArray.size = ns.length := by rw [List.size_toArray, hi.length]
  have W := WalksT.enumerate (prog := prog) (w := w) hh (s.heap.objs.size + 1) s.heap.objs.size l (Nat.succ_ne_self _) (Nat.ne_of_lt (Nat.lt_succ_of_lt hlt)) (Nat.ne_of_lt hlt) vs.toArray
  rw [hsz] at W
  refine tail1 r hk9 F N (fun C hC => Src.pair (P := fun _ _ => True) W hh rfl hC (fun i vals hP => ?_) (hx C) (hy C) hk) ?_ ?_ ?_ ⟨⟨_, by simpa using he9⟩, hit9, ?_⟩ hn ?_
  · obtain ⟨t, x, _, rfl⟩ := hP
    exact ⟨_, _, rfl, trivial, trivial⟩
  · intro b hb
    rw [hz9]
    simp only [List.mem_cons, List.not_mem_nil, or_false] at hb
    rcases hb with rfl | rfl | rfl
    · exact Nat.lt_succ_self _
    · exact Nat.lt_succ_of_lt (Nat.lt_succ_self _)
    · exact Nat.lt_succ_of_lt (Nat.lt_succ_of_lt hlt)
  · intro b hb
    simp only [List.mem_cons, List.not_mem_nil, or_false] at hb ⊢
    rcases hb with rfl | rfl
    · exact .inl rfl
    · exact .inr (.inl rfl)
  · intro b hb
    simp only [List.mem_cons, List.not_mem_nil, or_false] at hb
    rcases hb with rfl | rfl
    · exact none_size (Nat.le_succ _)
    · exact none_size (Nat.le_refl _)
  · exact hl.at fun o e => hk9 _ _ e
  · intro i h tk C D oC m₂ m₃ ysv E' hi' hB hO F' N' kk
    obtain ⟨v₁, v₂, hP, rfl⟩ := hB
    obtain ⟨t, u, rfl, rfl, _⟩ := pt_enum hi hP
    exact turn i h tk C D oC _ t u ysv E' hi' hO (by rw [if_neg hxy]; simp) (by simp) F' N' kk

theorem tail_list {l : Addr} {vs : List Value} {ns : List Int} {x : Str} {px : Pos} {h9 : Heap} {tk9 : Nat} (f : Int → Int) (hl : h9.IsList l vs.toArray) (hi : IntsAre vs ns) (hn : ns.length ≤ 1000) (hh : A.handled = none) (F : Fr h₀ L s.heap m) (N : News h₀ L s.heap news)
    (hx : ∀ C, (compEnvC scope cl C env).kindOf x = some .local) (hk : scope.kind = .function)
    (hk9 : ∀ b o, s.heap.get? b = some o → h9.get? b = some o)
    (turn : ∀ z h tk C D oC m₃ u ysv (E' : Value → Shared → Prop), z ∈ ns → LCg.NsObj oC m₃ → m₃ x = some (.int z u) → Fr h₀ L h m → News h₀ L h ((C, oC) :: (D, lst ysv) :: news) → (∀ b o, s.heap.get? b = some o → h.get? b = some o) →
      wpAny (model prog w) A (eval elt (compEnvC scope cl C env)) (ElPost s h (f z)) E' { s with heap := h, toks := tk }) :
    wpAny (model prog w) A (pyIter (.ref l)) (fun it s₂ => CompTail prog w A s env elt (.Name x px) i0 [] scope cl pos (ns.map f) it s₂) E { s with heap := h9, toks := tk9 } := by
  have hlt : l < h9.objs.size := by obtain ⟨o, e, _⟩ := hl; exact Heap.lt_size e
  refine wpAny_pyIter_list hl ?_
  have hsz : vs.toArray.size = ns.length := by rw [List.size_toArray, hi.length]
  have W := Walks.list (prog := prog) (w := w) hh h9.objs.size l (Nat.ne_of_lt hlt) vs.toArray
  rw [hsz] at W
  have up : ∀ b o, h9.get? b = some o → (h9.push { cls := .type "list_iterator", data := .fields #[.ref l, .int 0 0] }).get? b = some o := fun b o e => Heap.get?_push_of_some _ e
  have hmap : ns.map f = (List.range ns.length).map fun i => f (ns.getD i 0) := by
    apply List.ext_getElem
    · simp
    · intro i h1 h2
      simp at h1
      simp [List.getD, h1]
  rw [hmap]
  refine tail1 _ (fun b o e => up b o (hk9 b o e)) F N (fun C hC => Src.name W rfl hC (hx C) hk) ?_ ?_ ?_ ⟨⟨_, Heap.get?_push_size _ rfl, rfl, rfl⟩, hl.at fun o e => up _ o e⟩ hn ?_
  · intro b hb
    rw [Heap.size_push]
    simp only [List.mem_cons, List.not_mem_nil, or_false] at hb
    rcases hb with rfl | rfl
    · exact Nat.lt_succ_self _
    · exact Nat.lt_succ_of_lt hlt
  · intro b hb
    rw [List.mem_singleton.mp hb]; exact List.mem_cons_self
  · intro b hb
    rw [List.mem_singleton.mp hb]
    exact none_ge hk9 (Nat.le_refl _)
  · intro i h tk C D oC m₂ m₃ ysv E' hi' hB hO F' N' kk
    obtain ⟨v, hP, rfl⟩ := hB
    obtain ⟨u, rfl, _⟩ := pt_list hi hP
    have hmem : ns.getD i 0 ∈ ns := by
      rw [List.getD_eq_getElem?_getD, List.getElem?_eq_getElem hi']
      exact List.getElem_mem hi'
    exact turn (ns.getD i 0) h tk C D oC _ u ysv E' hmem hO (by simp) F' N' kk

-- the inner clause of two
abbrev Inner (prog : Program) (w : World) (A : Around) (s : Shared) (h₀ : Heap) (L : Addr) (m : Str → Option Value) (env : Env) (news : List (Addr × Obj)) (elt t1 : Expr) (scope : Scope) (cl : List (Str × Addr)) (h : Heap) (C D : Addr) (m₃ : Str → Option Value) (ri : List Int) (it1 : Value) (s₂ : Shared) : Prop :=
  ∃ I1 fp1 wr1 n1 B1 St1 h3 tk3 x1 r1, it1 = .ref I1 ∧ s₂ = { s with heap := h3, toks := tk3 } ∧ (∀ b o, h.get? b = some o → h3.get? b = some o) ∧
    (C ∉ fp1 → Src prog w A (compEnvC scope cl C env) C t1 I1 fp1 wr1 n1 B1 St1) ∧ C ∉ fp1 ∧ D ∉ fp1 ∧ (∀ b ∈ wr1, b ∈ fp1) ∧ (∀ b ∈ wr1, h.get? b = none) ∧ St1 0 h3 ∧ n1 ≤ 500 ∧ (List.range n1).map r1 = ri ∧ (∀ j m m', B1 j m m' → ∀ z, z ≠ x1 → m' z = m z) ∧
    ∀ j h' tk' oC' m₄ m₅ ysv' (E'' : Value → Shared → Prop), j < n1 → (∀ z, z ≠ x1 → m₄ z = m₃ z) → B1 j m₄ m₅ → LCg.NsObj oC' m₅ → Fr h₀ L h' m → News h₀ L h' ((C, oC') :: (D, lst ysv') :: news) → (∀ b o, s.heap.get? b = some o → h'.get? b = some o) →
      wpAny (model prog w) A (eval elt (compEnvC scope cl C env)) (ElPost s h' (r1 j)) E'' { s with heap := h', toks := tk' }

theorem inner_range {r : Addr} {a b : Int} {t u v : Tok} {n : Nat} {x1 : Str} {px1 : Pos} {h h3 : Heap} {tk3 : Nat} {C D : Addr} {oC oD : Obj} {m₃ : Str → Option Value} {ri : List Int} (R : Int → Int) (hh : A.handled = none) (hr : IsRange h3 r a b 1 t u v) (hsm : Builtin.Range.small a b 1 = true) (hn : Builtin.Range.rangeSize a b 1 = (n : Int)) (hn5 : n ≤ 500)
    (k3 : ∀ b o, h.get? b = some o → h3.get? b = some o) (hC : h.get? C = some oC) (hD : h.get? D = some oD) (hx : (compEnvC scope cl C env).kindOf x1 = some .local) (hk : scope.kind = .function) (hR : (List.range n).map (fun (j : Nat) => R (a + (j : Int))) = ri)
    (el : ∀ z h' tk' oC' m₅ ysv' tj (E'' : Value → Shared → Prop), a ≤ z → z < a + (n : Int) → LCg.NsObj oC' m₅ → m₅ x1 = some (.int z tj) → (∀ z, z ≠ x1 → m₅ z = m₃ z) → Fr h₀ L h' m → News h₀ L h' ((C, oC') :: (D, lst ysv') :: news) → (∀ b o, s.heap.get? b = some o → h'.get? b = some o) →
      wpAny (model prog w) A (eval elt (compEnvC scope cl C env)) (ElPost s h' (R z)) E'' { s with heap := h', toks := tk' }) :
    wpAny (model prog w) A (pyIter (.ref r)) (Inner prog w A s h₀ L m env news elt (.Name x1 px1) scope cl h C D m₃ ri) E { s with heap := h3, toks := tk3 } := by
  refine wpAny_pyIter_range hr hsm ?_
  have up : ∀ c o, h.get? c = some o → (h3.push { cls := .type "range_iterator", data := .fields #[rawInt a, rawInt (Builtin.Range.rangeSize a b 1), rawInt 1] }).get? c = some o := fun c o e => Heap.get?_push_of_some _ (k3 _ _ e)
  have ne : ∀ {b o}, h.get? b = some o → b ≠ h3.objs.size := fun e => Nat.ne_of_lt (Heap.lt_size (k3 _ _ e))
  refine ⟨h3.objs.size, [h3.objs.size], [h3.objs.size], n, _, _, _, _, x1, fun (j : Nat) => R (a + (j : Int)), rfl, rfl, up, fun hC' => Src.name (LCg.range_walks hh a n) rfl hC' hx hk, ?_, ?_, fun _ hb => hb, ?_, ?_, hn5, hR, ?_, ?_⟩
  · intro q; exact ne hC (List.mem_singleton.mp q)
  · intro q; exact ne hD (List.mem_singleton.mp q)
  · intro b hb; rw [List.mem_singleton.mp hb]; exact none_ge k3 (Nat.le_refl _)
  · show IsRangeIter _ _ _ _ _
    rw [hn]; simpa using Heap.get?_push_size _ rfl
  · rintro j m m' ⟨v, _, rfl⟩ z hz
    show (if z = x1 then _ else _) = _
    rw [if_neg hz]
  · rintro j h' tk' oC' m₄ m₅ ysv' E'' hj hM ⟨v, ⟨tj, rfl⟩, rfl⟩ hO F' N' kk
    exact el (a + (j : Int)) h' tk' oC' _ ysv' tj E'' (by omega) (by omega) hO (by simp) (fun z hz => by show (if z = x1 then _ else _) = _; rw [if_neg hz]; exact hM z hz) F' N' kk

theorem inner_list {l : Addr} {vs : List Value} {ns : List Int} {x1 : Str} {px1 : Pos} {h h3 : Heap} {tk3 : Nat} {C D : Addr} {oC oD : Obj} {m₃ : Str → Option Value} (f : Int → Int) (hh : A.handled = none) (hl : h3.IsList l vs.toArray) (hi : IntsAre vs ns) (hn : ns.length ≤ 500)
    (k3 : ∀ b o, h.get? b = some o → h3.get? b = some o) (hC : h.get? C = some oC) (hD : h.get? D = some oD) (hlC : l ≠ C) (hlD : l ≠ D) (hx : (compEnvC scope cl C env).kindOf x1 = some .local) (hk : scope.kind = .function)
    (el : ∀ z h' tk' oC' m₅ ysv' tj (E'' : Value → Shared → Prop), z ∈ ns → LCg.NsObj oC' m₅ → m₅ x1 = some (.int z tj) → (∀ z, z ≠ x1 → m₅ z = m₃ z) → Fr h₀ L h' m → News h₀ L h' ((C, oC') :: (D, lst ysv') :: news) → (∀ b o, s.heap.get? b = some o → h'.get? b = some o) →
      wpAny (model prog w) A (eval elt (compEnvC scope cl C env)) (ElPost s h' (f z)) E'' { s with heap := h', toks := tk' }) :
    wpAny (model prog w) A (pyIter (.ref l)) (Inner prog w A s h₀ L m env news elt (.Name x1 px1) scope cl h C D m₃ (ns.map f)) E { s with heap := h3, toks := tk3 } := by
  have hlt : l < h3.objs.size := by obtain ⟨o, e, _⟩ := hl; exact Heap.lt_size e
  refine wpAny_pyIter_list hl ?_
  have hsz : vs.toArray.size = ns.length := by rw [List.size_toArray, hi.length]
  have W := Walks.list (prog := prog) (w := w) hh h3.objs.size l (Nat.ne_of_lt hlt) vs.toArray
  rw [hsz] at W
  have up3 : ∀ b o, h3.get? b = some o → (h3.push { cls := .type "list_iterator", data := .fields #[.ref l, .int 0 0] }).get? b = some o := fun b o e => Heap.get?_push_of_some _ e
  have ne : ∀ {b o}, h.get? b = some o → b ≠ h3.objs.size := fun e => Nat.ne_of_lt (Heap.lt_size (k3 _ _ e))
  have hmap : (List.range ns.length).map (fun i => f (ns.getD i 0)) = ns.map f := by
    apply List.ext_getElem
    · simp
    · intro i h1 h2
      simp at h1
      simp [List.getD, h1]
  refine ⟨h3.objs.size, [h3.objs.size, l], [h3.objs.size], ns.length, _, _, _, _, x1, fun j => f (ns.getD j 0), rfl, rfl, fun b o e => up3 b o (k3 b o e), fun hC' => Src.name W rfl hC' hx hk, ?_, ?_, ?_, ?_, ⟨⟨_, Heap.get?_push_size _ rfl, rfl, rfl⟩, hl.at fun o e => up3 _ o e⟩, hn, hmap, ?_, ?_⟩
  · intro q
    simp only [List.mem_cons, List.not_mem_nil, or_false] at q
    rcases q with q | q
    · exact ne hC q
    · exact hlC q.symm
  · intro q
    simp only [List.mem_cons, List.not_mem_nil, or_false] at q
    rcases q with q | q
    · exact ne hD q
    · exact hlD q.symm
  · intro b hb; rw [List.mem_singleton.mp hb]; exact List.mem_cons_self
  · intro b hb; rw [List.mem_singleton.mp hb]; exact none_ge k3 (Nat.le_refl _)
  · rintro j m m' ⟨v, _, rfl⟩ z hz
    show (if z = x1 then _ else _) = _
    rw [if_neg hz]
  · rintro j h' tk' oC' m₄ m₅ ysv' E'' hj hM ⟨v, hP, rfl⟩ hO F' N' kk
    obtain ⟨tj, rfl, _⟩ := pt_list hi hP
    have hmem : ns.getD j 0 ∈ ns := by
      rw [List.getD_eq_getElem?_getD, List.getElem?_eq_getElem hj]
      exact List.getElem_mem hj
    exact el (ns.getD j 0) h' tk' oC' _ ysv' tj E'' hmem hO (by simp) (fun z hz => by show (if z = x1 then _ else _) = _; rw [if_neg hz]; exact hM z hz) F' N' kk

theorem flatMap_getD {g : Int → List Int} : ∀ ns : List Int, (List.range ns.length).flatMap (fun i => g (ns.getD i 0)) = ns.flatMap g
  | [] => rfl
  | n :: r => by
    have ih := flatMap_getD (g := g) r
    rw [List.length_cons, List.range_succ_eq_map, List.flatMap_cons, List.flatMap_cons, List.flatMap_map]
    exact congrArg _ ih
theorem take_flat {g : Int → List Int} {ns : List Int} {i : Nat} (hi : i ≤ ns.length) : (List.range i).flatMap (fun i => g (ns.getD i 0)) = (ns.take i).flatMap g := by
  have h := flatMap_getD (g := g) (ns.take i)
  rw [List.length_take, Nat.min_eq_left hi] at h
  rw [← h]
  refine congrArg List.flatten (List.map_congr_left fun j hj => ?_)
  have hj' : j < i := List.mem_range.mp hj
  rw [List.getD_eq_getElem?_getD, List.getD_eq_getElem?_getD, List.getElem?_take_of_lt hj']
theorem flat_mono {g : Int → List Int} {ns : List Int} {i : Nat} : ((ns.take i).flatMap g).length ≤ (ns.flatMap g).length := by
  conv => rhs; rw [← List.take_append_drop i ns, List.flatMap_append, List.length_append]
  exact Nat.le_add_right _ _

theorem tail2_list {t1 i1 : Expr} {l : Addr} {vs : List Value} {ns : List Int} {x : Str} {px : Pos} {h9 : Heap} {tk9 : Nat} (g : Int → List Int) (hl : h9.IsList l vs.toArray) (hi : IntsAre vs ns) (hn : (ns.flatMap g).length ≤ 500) (hh : A.handled = none) (F : Fr h₀ L s.heap m) (N : News h₀ L s.heap news)
    (hx : ∀ C, (compEnvC scope cl C env).kindOf x = some .local) (hk : scope.kind = .function) (hs : ∀ C x, foldedSetIterable i1 (compEnvC scope cl C env) x = pure x)
    (hk9 : ∀ b o, s.heap.get? b = some o → h9.get? b = some o)
    (turn : ∀ z h tk C D oC m₃ u ysv (E' : Value → Shared → Prop), z ∈ ns → LCg.NsObj oC m₃ → m₃ x = some (.int z u) → Fr h₀ L h m → News h₀ L h ((C, oC) :: (D, lst ysv) :: news) → (∀ b o, s.heap.get? b = some o → h.get? b = some o) →
      wpAny (model prog w) A (eval i1 (compEnvC scope cl C env)) (fun xv s₁ => wpAny (model prog w) A (pyIter xv) (Inner prog w A s h₀ L m env news elt t1 scope cl h C D m₃ (g z)) E' s₁) E' { s with heap := h, toks := tk }) :
    wpAny (model prog w) A (pyIter (.ref l)) (fun it s₂ => CompTail prog w A s env elt (.Name x px) i0 [⟨t1, i1, [], 0⟩] scope cl pos (ns.flatMap g) it s₂) E { s with heap := h9, toks := tk9 } := by
  have hlt : l < h9.objs.size := by obtain ⟨o, e, _⟩ := hl; exact Heap.lt_size e
  refine wpAny_pyIter_list hl ?_
  have hsz : vs.toArray.size = ns.length := by rw [List.size_toArray, hi.length]
  have W := Walks.list (prog := prog) (w := w) hh h9.objs.size l (Nat.ne_of_lt hlt) vs.toArray
  rw [hsz] at W
  have up : ∀ b o, h9.get? b = some o → (h9.push { cls := .type "list_iterator", data := .fields #[.ref l, .int 0 0] }).get? b = some o := fun b o e => Heap.get?_push_of_some _ e
  rw [← flatMap_getD (g := g) ns]
  refine tail2 _ (fun b o e => up b o (hk9 b o e)) F N (fun C hC => Src.name W rfl hC (hx C) hk) ?_ ?_ ?_ ⟨⟨_, Heap.get?_push_size _ rfl, rfl, rfl⟩, hl.at fun o e => up _ o e⟩ hs ?_ ?_
  · intro b hb
    rw [Heap.size_push]
    simp only [List.mem_cons, List.not_mem_nil, or_false] at hb
    rcases hb with rfl | rfl
    · exact Nat.lt_succ_self _
    · exact Nat.lt_succ_of_lt hlt
  · intro b hb
    rw [List.mem_singleton.mp hb]; exact List.mem_cons_self
  · intro b hb
    rw [List.mem_singleton.mp hb]
    exact none_ge hk9 (Nat.le_refl _)
  · intro i hi'
    rw [take_flat hi']
    exact Nat.le_trans flat_mono hn
  · intro i h tk C D oC m₂ m₃ ysv E' hi' hB hO F' N' kk
    obtain ⟨v, hP, rfl⟩ := hB
    obtain ⟨u, rfl, _⟩ := pt_list hi hP
    have hmem : ns.getD i 0 ∈ ns := by
      rw [List.getD_eq_getElem?_getD, List.getElem?_eq_getElem hi']
      exact List.getElem_mem hi'
    exact turn (ns.getD i 0) h tk C D oC _ u ysv E' hmem hO (by simp) F' N' kk

theorem tail2_range {t1 i1 : Expr} {r : Addr} {b : Int} {t u v : Tok} {n : Nat} {x : Str} {px : Pos} {h9 : Heap} {tk9 : Nat} (g : Nat → List Int) (hr : IsRange h9 r 0 b 1 t u v) (hsm : Builtin.Range.small 0 b 1 = true) (hrn : Builtin.Range.rangeSize 0 b 1 = (n : Int)) (hn : ((List.range n).flatMap g).length ≤ 500) (hh : A.handled = none) (F : Fr h₀ L s.heap m) (N : News h₀ L s.heap news)
    (hx : ∀ C, (compEnvC scope cl C env).kindOf x = some .local) (hk : scope.kind = .function) (hs : ∀ C x, foldedSetIterable i1 (compEnvC scope cl C env) x = pure x)
    (hk9 : ∀ b o, s.heap.get? b = some o → h9.get? b = some o)
    (turn : ∀ i h tk C D oC m₃ u ysv (E' : Value → Shared → Prop), i < n → LCg.NsObj oC m₃ → m₃ x = some (.int (i : Int) u) → Fr h₀ L h m → News h₀ L h ((C, oC) :: (D, lst ysv) :: news) → (∀ b o, s.heap.get? b = some o → h.get? b = some o) →
      wpAny (model prog w) A (eval i1 (compEnvC scope cl C env)) (fun xv s₁ => wpAny (model prog w) A (pyIter xv) (Inner prog w A s h₀ L m env news elt t1 scope cl h C D m₃ (g i)) E' s₁) E' { s with heap := h, toks := tk }) :
    wpAny (model prog w) A (pyIter (.ref r)) (fun it s₂ => CompTail prog w A s env elt (.Name x px) i0 [⟨t1, i1, [], 0⟩] scope cl pos ((List.range n).flatMap g) it s₂) E { s with heap := h9, toks := tk9 } := by
  refine wpAny_pyIter_range hr hsm ?_
  have up : ∀ c o, h9.get? c = some o → (h9.push { cls := .type "range_iterator", data := .fields #[rawInt 0, rawInt (Builtin.Range.rangeSize 0 b 1), rawInt 1] }).get? c = some o := fun c o e => Heap.get?_push_of_some _ e
  refine tail2 g (fun b o e => up b o (hk9 b o e)) F N (fun C hC => Src.name (LCg.range_walks hh 0 n) rfl hC (hx C) hk) ?_ (fun _ hb => hb) ?_ ?_ hs ?_ ?_
  · intro c hc
    rw [List.mem_singleton.mp hc, Heap.size_push]
    exact Nat.lt_succ_self _
  · intro c hc
    rw [List.mem_singleton.mp hc]
    exact none_ge hk9 (Nat.le_refl _)
  · show IsRangeIter _ _ _ _ _
    rw [hrn]; simpa using Heap.get?_push_size _ rfl
  · intro i hi'
    have e : n = i + (n - i) := by omega
    have h2 : ((List.range n).flatMap g).length = ((List.range i).flatMap g).length + (((List.range (n - i)).map (i + ·)).flatMap g).length := by
      conv => lhs; rw [e, List.range_add, List.flatMap_append, List.length_append]
    omega
  · intro i h tk C D oC m₂ m₃ ysv E' hi' hB hO F' N' kk
    obtain ⟨v, ⟨u, rfl⟩, rfl⟩ := hB
    exact turn i h tk C D oC _ u ysv E' hi' hO (by simp) F' N' kk
end
end Mine
end
-- B8
section
open PySem PySem.W PyProof.Rows PySem.Spec PySem.Calls
set_option maxRecDepth 100000
set_option maxHeartbeats 8000000
set_option linter.unusedVariables false
namespace Mine
section
variable {prog : Program} {w : World} {A : Around} {E : Value → Shared → Prop} {s : Shared} {h₀ : Heap} {L l : Addr} {m : Str → Option Value} {news : List (Addr × Obj)} {value slice : PySem.Expr} {vs : List Value} {ns ms : List Int} {vl vu : Value} {lo hi : Option Int} {Q : Value → Shared → Prop}
theorem slice_z (F : Fr h₀ L s.heap m) (N : News h₀ L s.heap news) (hl : s.heap.IsList l vs.toArray) (pl : IsPart vl lo) (pu : IsPart vu hi) (hi' : IntsAre vs ns) (hm : IntsAre (slicePick vs.toArray lo hi none).toList ms)
    (h : ∀ D ws h', Fr h₀ L h' m → News h₀ L h' ((D, listOf (List.toArray ws) 0) :: news) → (∀ p ∈ news, p.1 < D) → s.heap.get? D = none → (∀ b o, s.heap.get? b = some o → h'.get? b = some o) → IntsAre ws ms → Q (.ref D) { s with heap := h' })
    (hs : subscripted slice false (.ref l) (.ref s.heap.objs.size) = operate [.ref s.heap.objs.size, .ref l] (getItem (.ref l) (.ref s.heap.objs.size))) (ht : ∀ r, letTemporaryGo value (.ref l) r = pure ()) (hz : ns.length ≤ 1000) :
    wpAny (model prog w) A (subscriptTail value slice (.ref l) (.ref s.heap.objs.size)) Q E { s with heap := s.heap.push { cls := .type "slice", data := .fields #[vl, vu, .none] } } := by
  have hsz : vs.toArray.size ≤ sizeLine := by
    rw [List.size_toArray, hi'.length]; exact Nat.le_trans hz (by decide)
  refine subscriptTail_ops (Heap.IsList.typeIs (s := { s with heap := s.heap.push { cls := .type "slice", data := .fields #[vl, vu, .none] } }) (hl.push _)) list_getitem_lookup
    (wpAny_getItem_list_slice (hl.push _) (Heap.IsSliceOf.new ..) pl pu .none (by simp) ?_ hsz) hs ht
  have N1 := News.push (F.push { cls := .type "slice", data := .fields #[vl, vu, .none] }) (N.grown fun _ _ e => Heap.get?_push_of_some _ e) { cls := .type "list", data := .seq (slicePick vs.toArray lo hi none) }
  rw [Heap.size_push] at N1
  show Q (.ref (s.heap.push _).objs.size) _
  rw [Heap.size_push]
  refine h _ (slicePick vs.toArray lo hi none).toList _ ((F.push _).push _) ?_ (fun p hp => Nat.lt_succ_of_lt (Heap.lt_size (N p hp).1)) (Heap.get?_none_of_le (Nat.le_succ _)) (fun b o e => Heap.get?_push_of_some _ (Heap.get?_push_of_some _ e)) hm
  rw [Array.toArray_toList]
  exact N1

theorem lst_is {h : Heap} {l : Addr} {vs : List Value} (e : h.get? l = some (lst vs)) : h.IsList l vs.toArray := ⟨_, e, rfl, _, rfl⟩
theorem rs_len (k : Nat) : Builtin.Range.rangeSize 0 (k : Int) 1 = (k : Int) := by
  rw [rangeSize_nat]; omega
theorem len_z (hl : s.heap.IsList l vs.toArray) (hi : IntsAre vs ns) (hb : ns.length ≤ 1000)
    (h : Q (.int (ns.length : Int) (s.toks + 1)) { s with toks := s.toks + 1 + 1 }) : wpAny (model prog w) A (call (.builtin "len") [.ref l]) Q E s := by
  have e : vs.toArray.size = ns.length := by rw [List.size_toArray, hi.length]
  refine len_list hl (by rw [e]; omega) ?_
  rw [e]; exact h
end
end Mine
end
-- B9
section
open PySem PySem.W PyProof.Rows PySem.Spec PySem.Calls
set_option maxRecDepth 100000
set_option maxHeartbeats 8000000
set_option linter.unusedVariables false
namespace Mine

-- what a loop that grows one list keeps
def GrowS (D : Addr) (led : List (Addr × Obj)) (x : Str) (m₀ : Str → Option Value) (zs : List Int) (m : Str → Option Value) (nx : List (Addr × Obj)) : Prop :=
  ∃ ws c, nx = (D, listOf (List.toArray ws) c) :: led ∧ IntsAre ws zs ∧ ∀ z, z ≠ x → m z = m₀ z
def GrowCx (D : Addr) (led own : List (Addr × Obj)) : Prop := ∀ p ∈ led ++ own, p.1 ≠ D

section
variable {prog : Program} {w : World} {A : Around} {E : Value → Shared → Prop} {s : Shared} {env : Env} {h₀ : Heap} {x : Str} {body : List Stmt} {Q : Flow → Shared → Prop}

theorem grow_range {r D : Addr} {a₀ b₀ : Int} {t₀ u₀ v₀ : Tok} {n c₀ : Nat} {m₀ : Str → Option Value} {led : List (Addr × Obj)} {ws₀ : List Value} (st : Int) (P : Nat → List Int)
    (hh : A.handled = none) (hr : IsRange s.heap r a₀ b₀ st t₀ u₀ v₀) (hsmall : Builtin.Range.small a₀ b₀ st = true) (hn : Builtin.Range.rangeSize a₀ b₀ st = (n : Int)) (F : Fr h₀ env.locals s.heap m₀) (N : News h₀ env.locals s.heap ((D, listOf (List.toArray ws₀) c₀) :: led)) (hne : ∀ p ∈ led, p.1 ≠ D) (h0 : IntsAre ws₀ (P 0))
    (turn : ∀ (i : Nat) t h tk own ws c, i < n → GrowCx D led own → IntsAre ws (P i) → Fr h₀ env.locals h (fun y => if y = x then some (.int (a₀ + (i : Int) * st) t) else m₀ y) → News h₀ env.locals h ((D, listOf (List.toArray ws) c) :: (led ++ own)) →
      wpAny (model prog w) A (execs body env) (InvPostN h₀ env.locals (GrowS D led x m₀ (P (i + 1))) own (D :: led.map (·.1)) { s with heap := h, toks := tk } Q) E { s with heap := h, toks := tk })
    (done : ∀ (u : Str → Option Value) h tk ws c, IntsAre ws (P n) → Fr h₀ env.locals h (fun y => if y = x then u y else m₀ y) → News h₀ env.locals h ((D, listOf (List.toArray ws) c) :: led) → Q .next { s with heap := h, toks := tk }) :
    wpAny (model prog w) A (pyIter (.ref r)) (fun it s₂ => LoopAtV prog w A h₀ env x body Q E it s₂) E s := by
  refine wpAny_pyIter_range hr hsmall ?_
  have W : Walks prog w A s.heap.objs.size [s.heap.objs.size] [s.heap.objs.size] n (fun i v => i < n ∧ ∃ t, v = .int (a₀ + i * st) t)
      (fun i h => IsRangeIter h s.heap.objs.size (a₀ + (i : Nat) * st) ((n : Int) - (i : Nat)) st) := (Walks.range hh _ a₀ st n).bound
  refine loop_invN (fun i m nx => GrowS D led x m₀ (P i) m nx) W ?_ ?_ ?_ ?_ (by show IsRangeIter _ _ _ _ _; rw [hn]; simpa using Heap.get?_push_size _ rfl) (F.push _) (fun p hp => ⟨Heap.get?_push_of_some _ (N p hp).1, (N p hp).2⟩) ⟨ws₀, c₀, rfl, h0, fun _ _ => rfl⟩ ?_ ?_
  · intro hm
    exact absurd F.ns.lt ((List.mem_singleton.mp hm) ▸ Nat.lt_irrefl _)
  · intro b hb
    rw [List.mem_singleton.mp hb]
    exact next_is_new F
  · intro p hp hI
    exact absurd (Heap.lt_size (N p hp).1) ((List.mem_singleton.mp hI) ▸ Nat.lt_irrefl _)
  · intro p hp hI
    exact absurd (Heap.lt_size (N p hp).1) ((List.mem_singleton.mp hI) ▸ Nat.lt_irrefl _)
  · rintro i v m₁ nx h tk own hi ⟨_, t, rfl⟩ hadr hoff ⟨ws, c, rfl, iz, hm⟩ F₁ N₁
    have e : (fun y => if y = x then some (Value.int (a₀ + (i : Int) * st) t) else m₁ y) = fun y => if y = x then some (Value.int (a₀ + (i : Int) * st) t) else m₀ y := by
      funext y
      by_cases h1 : y = x
      · simp [h1]
      · simp only [if_neg h1]; exact hm y h1
    rw [e] at F₁
    exact turn i t h tk own ws c hi (fun p hp => (List.mem_append.mp hp).elim (hne p) fun h => hoff p h D List.mem_cons_self) iz F₁ N₁
  · rintro m₁ nx h tk ⟨ws, c, rfl, iz, hm⟩ F₁ N₁
    have e : (fun y => if y = x then m₁ y else m₀ y) = m₁ := by
      funext y
      by_cases h1 : y = x
      · simp [h1]
      · simp only [if_neg h1]; exact (hm y h1).symm
    exact done m₁ h tk ws c iz (by rw [e]; exact F₁) N₁

theorem grow_list {l D : Addr} {vs : List Value} {ns : List Int} {c₀ : Nat} {m₀ : Str → Option Value} {led : List (Addr × Obj)} {ws₀ : List Value} (P : Nat → List Int)
    (hh : A.handled = none) (hl : h₀.IsList l vs.toArray) (hi : IntsAre vs ns) (F : Fr h₀ env.locals s.heap m₀) (N : News h₀ env.locals s.heap ((D, listOf (List.toArray ws₀) c₀) :: led)) (hne : ∀ p ∈ led, p.1 ≠ D) (h0 : IntsAre ws₀ (P 0))
    (turn : ∀ (i : Nat) t h tk own ws c, i < ns.length → GrowCx D led own → IntsAre ws (P i) → Fr h₀ env.locals h (fun y => if y = x then some (.int (ns.getD i 0) t) else m₀ y) → News h₀ env.locals h ((D, listOf (List.toArray ws) c) :: (led ++ own)) →
      wpAny (model prog w) A (execs body env) (InvPostN h₀ env.locals (GrowS D led x m₀ (P (i + 1))) own (D :: led.map (·.1)) { s with heap := h, toks := tk } Q) E { s with heap := h, toks := tk })
    (done : ∀ (u : Str → Option Value) h tk ws c, IntsAre ws (P ns.length) → Fr h₀ env.locals h (fun y => if y = x then u y else m₀ y) → News h₀ env.locals h ((D, listOf (List.toArray ws) c) :: led) → Q .next { s with heap := h, toks := tk }) :
    wpAny (model prog w) A (pyIter (.ref l)) (fun it s₂ => LoopAtV prog w A h₀ env x body Q E it s₂) E s := by
  refine iter_invN (fun i m nx => GrowS D led x m₀ (P i) m nx) hh hl hi F N ⟨ws₀, c₀, rfl, h0, fun _ _ => rfl⟩ ?_ ?_
  · rintro i n t m₁ nx h tk own hn _ hoff ⟨ws, c, rfl, iz, hm⟩ F₁ N₁
    have hi' : i < ns.length := (List.getElem?_eq_some_iff.mp hn).1
    have hv : n = ns.getD i 0 := by rw [List.getD_eq_getElem?_getD, hn]; rfl
    subst hv
    have e : (fun y => if y = x then some (Value.int (ns.getD i 0) t) else m₁ y) = fun y => if y = x then some (Value.int (ns.getD i 0) t) else m₀ y := by
      funext y
      by_cases h1 : y = x
      · simp [h1]
      · simp only [if_neg h1]; exact hm y h1
    rw [e] at F₁
    exact turn i t h tk own ws c hi' (fun p hp => (List.mem_append.mp hp).elim (hne p) fun h => hoff p h D List.mem_cons_self) iz F₁ N₁
  · rintro m₁ nx h tk ⟨ws, c, rfl, iz, hm⟩ F₁ N₁
    have e : (fun y => if y = x then m₁ y else m₀ y) = m₁ := by
      funext y
      by_cases h1 : y = x
      · simp [h1]
      · simp only [if_neg h1]; exact (hm y h1).symm
    exact done m₁ h tk ws c iz (by rw [e]; exact F₁) N₁
end

theorem grow_end {h₀ : Heap} {L D : Addr} {m' m₀ : Str → Option Value} {x : Str} {led own news : List (Addr × Obj)} {ws : List Value} {c : Nat} {zs : List Int} {s₁ : Shared} {h' : Heap} {tk : Nat}
    (F : Fr h₀ L h' m') (N : News h₀ L h' news) (hD : (D, listOf (List.toArray ws) c) ∈ news) (sub : ∀ p ∈ led ++ own, p ∈ news) (iz : IntsAre ws zs) (hm : ∀ z, z ≠ x → m' z = m₀ z) :
    InvEndN h₀ L (GrowS D led x m₀ zs) own (D :: led.map (·.1)) s₁ { s₁ with heap := h', toks := tk } :=
  InvEndN.intro (nx := (D, listOf (List.toArray ws) c) :: led) F N ⟨ws, c, rfl, iz, hm⟩ rfl
    (fun p hp => (List.mem_cons.mp hp).elim (fun e => e ▸ hD) fun h => sub p (List.mem_append.mpr (.inl h)))
    fun p hp => sub p (List.mem_append.mpr (.inr hp))

theorem grow_append {prog : Program} {w : World} {A : Around} {E : Value → Shared → Prop} {s : Shared} {h₀ : Heap} {L D : Addr} {m : Str → Option Value} {led own news : List (Addr × Obj)} {ws : List Value} {c : Nat} {v : Value} {Q : Value → Shared → Prop}
    (F : Fr h₀ L s.heap m) (N : News h₀ L s.heap news) (G : GrowCx D led own) (hD : (D, listOf (List.toArray ws) c) ∈ news) (sub : ∀ p ∈ led ++ own, p ∈ news) (hsz : ws.length ≤ 1000)
    (h : ∀ h', Fr h₀ L h' m → News h₀ L h' ((D, listOf (List.toArray (ws ++ [v])) (c + 1)) :: (led ++ own)) → Q .none { s with heap := h' }) :
    wpAny (model prog w) A (call (.builtin "list.append") [.ref D, v]) Q E s := by
  have hz : ws.toArray.size ≤ sizeLine := by rw [List.size_toArray]; exact Nat.le_trans hsz (by decide)
  refine append_at (hsz := hz) (N _ hD).1 fun h' hs ho' => h h' (F.change hs (N _ hD).2.1 (N _ hD).2.2) ?_
  have ho2 : h'.get? D = some (listOf (List.toArray (ws ++ [v])) (c + 1)) := by
    rw [ho', ← List.push_toArray]
  intro p hp
  rcases List.mem_cons.mp hp with rfl | hp
  · exact ⟨ho2, (N _ hD).2⟩
  · exact ⟨hs.extBut _ _ (G p hp) (N p (sub p hp)).1, (N p (sub p hp)).2⟩
end Mine
end
-- B10
section
open PySem PySem.W PyProof.Rows PySem.Spec PySem.Calls
set_option maxRecDepth 100000
set_option maxHeartbeats 8000000
set_option linter.unusedVariables false
namespace Mine
theorem told_mid {P : Params} {mean : ExcName → Option Value} {mg mb : Str → Option Value} {l : List Env} {env : Env} {base g₀ h h9 : Heap} {L' e c : Addr} {m' : Str → Option Value} {led : List (Addr × Obj)} (new led' : List (Addr × Obj))
    (Kb : ∀ b o, base.get? b = some o → g₀.get? b = some o) (X : (hd.heap_39 P).In base) (T : Top hd.view_39 (looseW hd.view_39 []) mean mg mb base) (FA : FramesAt l base g₀)
    (F : Fr g₀ L' h m') (N : News g₀ L' h led) (hf : env.frame = some L') (U : UpK (env :: l) [e, c] h h9)
    (hnew : ∀ p ∈ new, h9.get? p.1 = some p.2 ∧ (h.get? p.1 = none ∨ p.1 = e ∨ p.1 = c))
    (ge : g₀.get? e = none) (gc : g₀.get? c = none) (eL : e ≠ L') (cL : c ≠ L')
    (hled : ∀ p ∈ led', p ∈ led ∧ p.1 ≠ e ∧ p.1 ≠ c) :
    ∃ g, Fr g L' h9 m' ∧ News g L' h9 (new ++ led') ∧ (hd.heap_39 P).In g ∧ Top hd.view_39 (looseW hd.view_39 []) mean mg mb g ∧ (∀ b o, base.get? b = some o → g.get? b = some o) ∧ FramesAt l base g ∧ UpK l [] g₀ g := by
  have lt : ∀ b o, g₀.get? b = some o → b < L' := fun b o q => Nat.lt_of_lt_of_le (Heap.lt_size q) F.above
  have gL : g₀.get? L' = none := Heap.get?_none_of_le F.above
  obtain ⟨oL, es, ep, hL1, _⟩ := F.ns
  have gnew : ∀ p ∈ new, g₀.get? p.1 = none := by
    intro p hp
    rcases (hnew p hp).2 with q | q | q
    · exact none_base F.keep q
    · rw [q]; exact ge
    · rw [q]; exact gc
  have gled : ∀ p ∈ led', g₀.get? p.1 = none := fun p hp => (N p (hled p hp).1).2.2
  have gall : ∀ p ∈ new ++ led', g₀.get? p.1 = none := fun p hp => (List.mem_append.mp hp).elim (gnew p) (gled p)
  have away : ∀ b o, g₀.get? b = some o → ∀ p ∈ new ++ led', p.1 ≠ b := fun b o q p hp => ne_none (gall p hp) q
  have hfl : framesOf (env :: l) = L' :: framesOf l := by simp [framesOf, hf]
  have frl : ∀ b ∈ framesOf l, ∃ o, g₀.get? b = some o := fun b hb => by
    obtain ⟨o, q, _⟩ := FA.here b hb
    exact ⟨o, q⟩
  have notec : ∀ b o, g₀.get? b = some o → b ∉ [e, c] := fun b o q hb => by
    rcases List.mem_cons.mp hb with rfl | hb
    · rw [ge] at q; cases q
    · rw [List.mem_singleton.mp hb, gc] at q; cases q
  have FA9 : FramesAt l base h9 := (FA.keeps F.keep).up U fun b hb => by
    obtain ⟨o, q⟩ := frl b hb
    exact notec b o q
  have ns9 : h9.Ns L' m' := ns_upK F.ns U fun q => by
    rcases List.mem_cons.mp q with q | q
    · exact eL q.symm
    · exact cL (List.mem_singleton.mp q).symm
  have hN : ∀ p ∈ new ++ led', h9.get? p.1 = some p.2 ∧ p.1 ≠ L' := by
    intro p hp
    rcases List.mem_append.mp hp with hp | hp
    · refine ⟨(hnew p hp).1, fun q => ?_⟩
      rcases (hnew p hp).2 with z | z | z
      · rw [q, hL1] at z; cases z
      · exact eL (z.symm.trans q)
      · exact cL (z.symm.trans q)
    · obtain ⟨hm, h1, h2⟩ := hled p hp
      obtain ⟨a, b, d⟩ := N p hm
      refine ⟨U.exact a ?_ ?_, b⟩
      · intro q
        rcases List.mem_cons.mp q with q | q
        · exact h1 q
        · exact h2 (List.mem_singleton.mp q)
      · rw [hfl]
        intro q
        rcases List.mem_cons.mp q with q | q
        · exact b q
        · obtain ⟨o, z⟩ := frl _ q
          rw [d] at z; cases z
  have K9 : ∀ b o, base.get? b = some o → h9.get? b = some o := fun b o q =>
    U.exact (F.keep _ _ (Kb b o q)) (notec b o (Kb b o q)) (by
      rw [hfl]
      intro z
      rcases List.mem_cons.mp z with z | z
      · rw [z] at q; rw [Kb _ _ q] at gL; cases gL
      · rw [FA.base b z] at q; cases q)
  have K2 : ∀ b o, base.get? b = some o → (newG h9 L' (new ++ led')).get? b = some o :=
    fun b o q => re_get (K9 b o q) (lt _ _ (Kb b o q)) (away _ _ (Kb b o q))
  refine ⟨newG h9 L' (new ++ led'), re_fr ns9, re_news hN, X.keeps K2, T.keeps K2, K2, re_frames FA9 ?_, ?_⟩
  · intro b hb
    obtain ⟨o, q⟩ := frl b hb
    exact ⟨lt b o q, away b o q⟩
  · intro b o q _
    obtain ⟨o', e', x⟩ := U b o (F.keep b o q) (notec b o q)
    refine ⟨o', re_get e' (lt _ _ q) (away _ _ q), x.imp id fun ⟨y, z⟩ => ⟨?_, z⟩⟩
    rw [hfl] at y
    rcases List.mem_cons.mp y with rfl | y
    · rw [gL] at q; cases q
    · exact y
end Mine
end
-- B11
section
open PySem PySem.W PyProof.Rows PySem.Spec PySem.Calls
set_option maxRecDepth 100000
set_option maxHeartbeats 8000000
set_option linter.unusedVariables false
namespace Mine
theorem kb_up {base g h : Heap} {L : Addr} {m : Str → Option Value} (k : ∀ b o, base.get? b = some o → g.get? b = some o) (F : Fr g L h m) : ∀ b o, base.get? b = some o → h.get? b = some o := fun b o e => F.keep b o (k b o e)
theorem told_mid2 {P : Params} {mean : ExcName → Option Value} {mg mb : Str → Option Value} {A : Around} {l : List Env} {env : Env} {base g₀ h h9 : Heap} {L' e c t r : Addr} {m' : Str → Option Value} {oe oc ot or' oc' : Obj} {led' : List (Addr × Obj)} (hA : A.frames = some l)
    (Kb : ∀ b o, base.get? b = some o → g₀.get? b = some o) (X : (hd.heap_39 P).In base) (T : Top hd.view_39 (looseW hd.view_39 []) mean mg mb base) (FA : FramesAt l base g₀)
    (F : Fr g₀ L' h m') (N : News g₀ L' h ((c, oc) :: (e, oe) :: led')) (hf : env.frame = some L') (U : UpK (env :: l) [e, c] h h9)
    (ht : h9.get? t = some ot) (hr : h9.get? r = some or') (hc : h9.get? c = some oc') (ft : h.get? t = none) (fr : h.get? r = none)
    (ne : ∀ p ∈ led', p.1 ≠ e) (nc : ∀ p ∈ led', p.1 ≠ c) :
    ∃ g, Fr g L' h9 m' ∧ News g L' h9 ((t, ot) :: (r, or') :: (c, oc') :: led') ∧ (hd.heap_39 P).In g ∧ Top hd.view_39 (looseW hd.view_39 []) mean mg mb g ∧ (∀ b o, base.get? b = some o → g.get? b = some o) ∧ FramesAt l base g ∧ UpK l [] g₀ g ∧ Below A base l g := by
  have ec := N _ List.mem_cons_self
  have ee := N _ (List.mem_cons_of_mem _ List.mem_cons_self)
  obtain ⟨g, a1, a2, a3, a4, a5, a6, a7⟩ := told_mid [(t, ot), (r, or'), (c, oc')] led' Kb X T FA F N hf U (by
    intro p hp
    simp only [List.mem_cons, List.not_mem_nil, or_false] at hp
    rcases hp with rfl | rfl | rfl
    · exact ⟨ht, .inl ft⟩
    · exact ⟨hr, .inl fr⟩
    · exact ⟨hc, .inr (.inr rfl)⟩) ee.2.2 ec.2.2 ee.2.1 ec.2.1 fun p hp => ⟨List.mem_cons_of_mem _ (List.mem_cons_of_mem _ hp), ne p hp, nc p hp⟩
  exact ⟨g, a1, a2, a3, a4, a5, a6, a7, below_of hA a5 a6⟩
theorem told_mid3 {P : Params} {mean : ExcName → Option Value} {mg mb : Str → Option Value} {A : Around} {l : List Env} {env : Env} {base g₀ h h9 : Heap} {L' e c t r : Addr} {m' : Str → Option Value} {oe oc ot or' oc' : Obj} {led' : List (Addr × Obj)} (hA : A.frames = some l)
    (Kb : ∀ b o, base.get? b = some o → g₀.get? b = some o) (X : (hd.heap_39 P).In base) (T : Top hd.view_39 (looseW hd.view_39 []) mean mg mb base) (FA : FramesAt l base g₀)
    (F : Fr g₀ L' h m') (N : News g₀ L' h ((c, oc) :: (e, oe) :: led')) (hf : env.frame = some L') (U : UpK (env :: l) [e, c] h h9)
    (ht : h9.get? t = some ot) (hr : h9.get? r = some or') (hc : h9.get? c = some oc') (ft : h.get? t = none) (fr : h.get? r = none)
    (le : ∀ p ∈ led', p.1 < e) (lc : ∀ p ∈ (e, oe) :: led', p.1 < c) :
    ∃ g, Fr g L' h9 m' ∧ News g L' h9 ((t, ot) :: (r, or') :: (c, oc') :: led') ∧ (hd.heap_39 P).In g ∧ Top hd.view_39 (looseW hd.view_39 []) mean mg mb g ∧ (∀ b o, base.get? b = some o → g.get? b = some o) ∧ FramesAt l base g ∧ UpK l [] g₀ g ∧ Below A base l g :=
  told_mid2 hA Kb X T FA F N hf U ht hr hc ft fr (fun p hp => Nat.ne_of_lt (le p hp)) fun p hp => Nat.ne_of_lt (lc p (List.mem_cons_of_mem _ hp))
theorem lt_ne {e c : Addr} {oe : Obj} {led' : List (Addr × Obj)} (lc : ∀ p ∈ (e, oe) :: led', p.1 < c) : e ≠ c := Nat.ne_of_lt (lc _ List.mem_cons_self)
end Mine
end
-- B12
section
open PySem PySem.W PyProof.Rows PySem.Spec PySem.Calls PySem.SeqAt PyProof.V
set_option maxRecDepth 100000
set_option maxHeartbeats 8000000
set_option linter.unusedVariables false
namespace Mine
theorem reads_pair {h : Heap} {t r c : Addr} {k : Nat} {vr vc : List Value} {xs ys : List Int} (ht : h.get? t = some { cls := .type "tuple", data := .seq #[.ref r, .ref c] k }) (hr : h.IsList r vr.toArray) (ir : IntsAre vr xs) (hc : h.IsList c vc.toArray) (ic : IntsAre vc ys) :
    Reads h (.ref t) (.tuple [.list (xs.map PyData.int), .list (ys.map PyData.int)]) [r, c] := by
  refine Reads.tuple ht rfl rfl ?_
  have := ReadsAll.cons (reads_of_ints hr ir) (ReadsAll.cons (reads_of_ints hc ic) (.nil (h := h)))
  simpa using this
theorem shaped_pair (xs ys : List Int) : shaped (.tuple [.list (xs.map PyData.int), .list (ys.map PyData.int)]) = true := by
  have h1 := PySem.W.depthAll_ints xs
  have h2 := PySem.W.depthAll_ints ys
  have h3 : PyData.depth (.tuple [.list (xs.map PyData.int), .list (ys.map PyData.int)]) ≤ 64 := by simp only [PyData.depth, PyData.depthAll]; omega
  show (PyData.canLay0 (.tuple [.list (xs.map PyData.int), .list (ys.map PyData.int)]) && decide (_ ≤ 64)) = true
  rw [Bool.and_eq_true]
  exact ⟨by simp [PyData.canLay0, PyData.canLayAll0, canLayAll0_ints], decide_eq_true h3⟩
section
variable {prog : Program} {w : World} {A : Around} {E : Value → Shared → Prop} {s : Shared}
theorem ne_pairK {t r c u d e : Addr} {k j : Nat} {vr vc vd ve : List Value} {xs ys zs ws : List Int} {Q : Value → Shared → Prop} (ht : s.heap.get? t = some { cls := .type "tuple", data := .seq #[.ref r, .ref c] k }) (hr : s.heap.IsList r vr.toArray) (ir : IntsAre vr xs) (hc : s.heap.IsList c vc.toArray) (ic : IntsAre vc ys)
    (hu : s.heap.get? u = some { cls := .type "tuple", data := .seq #[.ref d, .ref e] j }) (hd : s.heap.IsList d vd.toArray) (id : IntsAre vd zs) (he : s.heap.IsList e ve.toArray) (ie : IntsAre ve ws) (hun : A.units + 64 < cLine)
    (h : Q (.bool (!(decide (xs = zs) && decide (ys = ws)))) s) : wpAny (model prog w) A (compareOp .NotEq (.ref t) (.ref u)) Q E s :=
  ne_dataH_same (reads_pair ht hr ir hc ic) (reads_pair hu hd id he ie) (shaped_pair xs ys) (shaped_pair zs ws) hun (by simp [noMix, noMixAll, noMix_ints]) (by simp only [PySem.Spec.same, PySem.Spec.sameAll]; rw [same_ints, same_ints]; simpa using h)
end
end Mine
end
-- C6
section
theorem Mine.top_C6 : True := by
  w_top off
  trivial
open PySem PySem.W PyProof.Rows PySem.Spec PySem.Calls
set_option maxRecDepth 100000
set_option maxHeartbeats 8000000
set_option linter.unusedVariables false
namespace Mine

abbrev marksF (ns : List Int) : List Int := (List.range ns.length).map fun i => ns.getD i 0 + ((ns.length : Int) - 1 - (i : Int))
abbrev stepsF (ms : List Int) (n : Int) : List Int := ms.flatMap fun mk => (List.range (mk + 1 - 1).toNat).map fun (j : Nat) => (1 + (j : Int)) + n
abbrev gapsF (ms : List Int) (n : Int) : List Int := (List.range ms.length).flatMap fun i => (ms.drop (i + 1)).map fun later => (ms.getD i 0 - later) + n
def dueP (S G : List Int) : Nat → List Int
  | 0 => []
  | i + 1 => if ((G.count (S.getD (S.length - 1 - i) 0) : Nat) : Int) < (((S.drop (S.length - 1 - i)).count (S.getD (S.length - 1 - i) 0) : Nat) : Int) then dueP S G i ++ [S.getD (S.length - 1 - i) 0] else dueP S G i
theorem due_yes {S G : List Int} {i p : Nat} {ws : List Value} {t : Tok} (h : ((G.count (S.getD p 0) : Nat) : Int) < (((S.drop p).count (S.getD p 0) : Nat) : Int)) (iz : IntsAre ws (dueP S G i)) (hp : p = S.length - 1 - i) : IntsAre (ws ++ [.int (S.getD p 0) t]) (dueP S G (i + 1)) := by
  subst hp
  rw [dueP, if_pos h]
  exact IntsAre.append iz (.cons _ _ .nil)
theorem due_no {S G : List Int} {i p : Nat} {ws : List Value} (h : ¬ ((G.count (S.getD p 0) : Nat) : Int) < (((S.drop p).count (S.getD p 0) : Nat) : Int)) (iz : IntsAre ws (dueP S G i)) (hp : p = S.length - 1 - i) : IntsAre ws (dueP S G (i + 1)) := by
  subst hp
  rw [dueP, if_neg h]
  exact iz
theorem dueP_len (S G : List Int) : ∀ i, (dueP S G i).length ≤ i
  | 0 => Nat.le_refl _
  | i + 1 => by
    unfold dueP
    have := dueP_len S G i
    split
    · rw [List.length_append, List.length_singleton]; omega
    · omega
def restP (S G : List Int) : Nat → List Int
  | 0 => []
  | i + 1 => if ((G.count (S.getD i 0) : Nat) : Int) < (((S.take (i + 1)).count (S.getD i 0) : Nat) : Int) then restP S G i ++ [S.getD i 0] else restP S G i
theorem rest_yes {S G : List Int} {i p k : Nat} {ws : List Value} {t : Tok} (h : ((G.count (S.getD p 0) : Nat) : Int) < (((S.take k).count (S.getD p 0) : Nat) : Int)) (iz : IntsAre ws (restP S G i)) (hp : p = i) (hk : k = i + 1) : IntsAre (ws ++ [.int (S.getD p 0) t]) (restP S G (i + 1)) := by
  subst hp hk
  rw [restP, if_pos h]
  exact IntsAre.append iz (.cons _ _ .nil)
theorem rest_no {S G : List Int} {i p k : Nat} {ws : List Value} (h : ¬ ((G.count (S.getD p 0) : Nat) : Int) < (((S.take k).count (S.getD p 0) : Nat) : Int)) (iz : IntsAre ws (restP S G i)) (hp : p = i) (hk : k = i + 1) : IntsAre ws (restP S G (i + 1)) := by
  subst hp hk
  rw [restP, if_neg h]
  exact iz
theorem restP_len (S G : List Int) : ∀ i, (restP S G i).length ≤ i
  | 0 => Nat.le_refl _
  | i + 1 => by
    unfold restP
    have := restP_len S G i
    split
    · rw [List.length_append, List.length_singleton]; omega
    · omega
abbrev dueF (S G : List Int) : List Int := dueP S G S.length
abbrev restF (S G : List Int) : List Int := restP S G S.length
def toldS (S G : List Int) (n : Int) : Option (List Int) :=
  if (uldF S G).1 = dueF S G ∧ (uldF S G).2 = [] then (if (uldF G S).1 = [] ∧ (uldF G S).2 = restF S G then some ((uldF S G).1.map fun x => x - n) else none) else none
def toldF (ns : List Int) (n : Int) : Option (List Int) := toldS (stepsF (marksF ns) n) (gapsF (marksF ns) n) n
theorem uld_all (xs ys : List Int) : UldW xs ys [] (uldF xs ys).2 (uldF xs ys).1 := ⟨xs, by simp, rfl⟩
theorem upk_keep {l l₁ : List Env} {a : List Addr} {g h h' : Heap} (u : UpK l a g h) (hl : framesOf l = framesOf l₁) (k : ∀ b o, h.get? b = some o → h'.get? b = some o) : UpK l₁ a g h' := by
  intro b o e n
  obtain ⟨o', e', x⟩ := u b o e n
  exact ⟨o', k _ _ e', hl ▸ x⟩
theorem upk_two {l : List Env} {g g' h : Heap} (u : UpK l [] g g') (v : UpK l [] g' h) : UpK l [] g h :=
  u.trans v (fun _ _ _ n => ⟨n, n⟩) fun _ _ _ => ⟨id, id⟩
theorem none_up {l : List Env} {g h : Heap} {d : Addr} (u : UpK l [] g h) (e : h.get? d = none) : g.get? d = none := by
  cases q : g.get? d with
  | none => rfl
  | some o =>
    obtain ⟨o', e', _⟩ := u d o q List.not_mem_nil
    rw [e'] at e; cases e
theorem told_some {S G : List Int} {n : Int} (h1 : (decide ((uldF S G).1 = dueP S G S.length) && decide ((uldF S G).2 = [])) = true) (h2 : (decide ((uldF G S).1 = []) && decide ((uldF G S).2 = restP S G S.length)) = true) : toldS S G n = some ((uldF S G).1.map fun x => x - n) := by
  rw [Bool.and_eq_true, decide_eq_true_eq, decide_eq_true_eq] at h1 h2
  rw [toldS, if_pos h1, if_pos h2]
theorem told_no1 {S G : List Int} {n : Int} (h1 : (decide ((uldF S G).1 = dueP S G S.length) && decide ((uldF S G).2 = [])) = false) : toldS S G n = none := by
  rw [← Bool.not_eq_true, Bool.and_eq_true, decide_eq_true_eq, decide_eq_true_eq] at h1
  rw [toldS, if_neg h1]
theorem told_no2 {S G : List Int} {n : Int} (h2 : (decide ((uldF G S).1 = []) && decide ((uldF G S).2 = restP S G S.length)) = false) : toldS S G n = none := by
  rw [← Bool.not_eq_true, Bool.and_eq_true, decide_eq_true_eq, decide_eq_true_eq] at h2
  by_cases h1 : (uldF S G).1 = dueF S G ∧ (uldF S G).2 = []
  · rw [toldS, if_pos h1, if_neg h2]
  · rw [toldS, if_neg h1]
theorem told_goA {G : Prop} {P1 P2 P3 P4 P5 P6 P7 P8 : Heap → Prop} (x : ∃ g, P1 g ∧ P2 g ∧ P3 g ∧ P4 g ∧ P5 g ∧ P6 g ∧ P7 g ∧ P8 g) (h : ∀ g, P1 g → P2 g → P3 g → P4 g → P5 g → P6 g → P7 g → P8 g → G) : G := by
  obtain ⟨g, a, b, c, d, e, f, i, j⟩ := x
  exact h g a b c d e f i j
theorem marks_bnd {ns : List Int} (hlen : ns.length ≤ 6) (hsz : ∀ x ∈ ns, 0 ≤ x ∧ x ≤ 6) : ∀ z ∈ marksF ns, 0 ≤ z ∧ z ≤ 11 := by
  intro z hz
  obtain ⟨i, hi, rfl⟩ := List.mem_map.mp hz
  have hi' := List.mem_range.mp hi
  have hm : ns.getD i 0 ∈ ns := by
    rw [List.getD_eq_getElem?_getD, List.getElem?_eq_getElem hi']
    exact List.getElem_mem hi'
  have := hsz _ hm
  omega
theorem flat_len {g : Int → List Int} {k : Nat} : ∀ {ms : List Int}, (∀ z ∈ ms, (g z).length ≤ k) → (ms.flatMap g).length ≤ ms.length * k
  | [], _ => by simp
  | z :: r, h => by
    rw [List.flatMap_cons, List.length_append, List.length_cons, Nat.succ_mul]
    have h1 := h z List.mem_cons_self
    have h2 := flat_len (g := g) (ms := r) fun y hy => h y (List.mem_cons_of_mem _ hy)
    omega
theorem steps_len {ns : List Int} {n : Int} (hlen : ns.length ≤ 6) (hsz : ∀ x ∈ ns, 0 ≤ x ∧ x ≤ 6) : (stepsF (marksF ns) n).length ≤ 66 := by
  refine Nat.le_trans (flat_len (k := 11) fun z hz => ?_) ?_
  · have := marks_bnd hlen hsz z hz
    rw [List.length_map, List.length_range]; omega
  · rw [List.length_map, List.length_range]; omega
theorem flat_len' {g : Nat → List Int} {k : Nat} : ∀ {ms : List Nat}, (∀ z ∈ ms, (g z).length ≤ k) → (ms.flatMap g).length ≤ ms.length * k
  | [], _ => by simp
  | z :: r, h => by
    rw [List.flatMap_cons, List.length_append, List.length_cons, Nat.succ_mul]
    have h1 := h z List.mem_cons_self
    have h2 := flat_len' (g := g) (ms := r) fun y hy => h y (List.mem_cons_of_mem _ hy)
    omega
theorem gaps_len {ns : List Int} {n : Int} (hlen : ns.length ≤ 6) : (gapsF (marksF ns) n).length ≤ 36 := by
  have e : (marksF ns).length = ns.length := by rw [List.length_map, List.length_range]
  refine Nat.le_trans (flat_len' (k := 6) fun z hz => ?_) ?_
  · rw [List.length_map, List.length_drop, e]; omega
  · rw [List.length_range, e]; omega
section
local macro_rules | `(tactic| walk_at "ElPost") => `(tactic| (k_dflt (refine elp (by rfl) ?_); first | exact kept_trans (by assumption) (by assumption) | assumption | exact kept_refl))
local macro_rules | `(tactic| walk_at "pyIter ref") => `(tactic| first | k_extra "M.iter" )
local macro_rules | `(tactic| walk_at "eval ListComp") => `(tactic| k_extra "M.comp")
local macro_rules | `(tactic| walk_at "exec Assign cons ListComp") => `(tactic| k_extra "M.assign")
local macro_rules | `(tactic| walk_at "call builtin:list.count") => `(tactic| ((with_reducible show wpAny _ _ (call (Value.builtin _) [Value.ref _, Value.int _ _]) _ _ _); k_dflt (refine count_list_ints (by is_list) (by with_reducible assumption) ?_)))
local macro_rules | `(tactic| walk_at "call ref") => `(tactic| ((with_reducible show wpAny _ _ (call (Value.ref 70) [Value.ref _, Value.ref _]) _ _ _); (rename Fr _ _ _ _ => F9); (rename News _ _ _ _ => N9); (rename FramesAt _ _ _ => fa9); (rename Below _ _ _ _ => bl9); k_dflt (refine' asked_c ?hkc ?FA ?Kb ?X ?T ?he ?hc ?ne ?be ?bc ?hx ?hy ?lx ?ly ?dp ?hu ?_; (case hkc => exact rfl); (case FA => exact (fa9.keeps F9.keep).push F9.ns rfl rfl (by assumption)); (case Kb => exact kb_up (by with_reducible assumption) F9); (case X => with_reducible assumption); (case T => with_reducible assumption); (case he => exact (N9 (_, W.listOf (List.toArray _) _) (by k_mem)).1); (case hc => exact (N9 (_, W.listOf (List.toArray _) _) (by k_mem)).1); (case ne => exact lt_ne (by with_reducible assumption)); (case be => exact none_base (by with_reducible assumption) (N9 (_, W.listOf (List.toArray _) _) (by k_mem)).2.2); (case bc => exact none_base (by with_reducible assumption) (N9 (_, W.listOf (List.toArray _) _) (by k_mem)).2.2); (case hx => with_reducible assumption); (case hy => with_reducible assumption); (case lx => omega); (case ly => omega); (case dp => first | ktr_room | omega); (case hu => first | ktr_room | omega); k_whole; intro t9 r9 vr9 vc9 nr9 ne9 nc9 h9 tk9 U9 ht9 hr9 ir9 hc9 ic9 he9 ft9 fr9 tr9; (obtain ⟨g9, Fg, Ng, Xg, Tg, Kg, FAg, Ug, Bg⟩ := told_mid3 bl9.stack (by with_reducible assumption) (by with_reducible assumption) (by with_reducible assumption) fa9 F9 N9 (by rfl) U9 ht9 hr9 hc9 ft9 fr9 (by with_reducible assumption) (by with_reducible assumption)); (try dsimp only); (try k_fold))))
local macro_rules | `(tactic| walk_at "compareOp NotEq ref ref") => `(tactic| ((with_reducible show wpAny _ _ (compareOp CmpOp.NotEq (Value.ref _) (Value.ref _)) _ _ _); (rename News _ _ _ _ => N9); k_dflt (refine' ne_pairK ?t ?r ?ir ?c ?ic ?u ?d ?id ?e ?ie ?un ?_; (case t => exact (N9 (_, { cls := .type "tuple", data := .seq #[.ref _, .ref _] _ }) (by k_mem)).1); (case r => is_list); (case ir => with_reducible assumption); (case c => is_list); (case ic => with_reducible assumption); (case u => exact (N9 (_, { cls := .type "tuple", data := .seq #[.ref _, .ref _] _ }) (by k_mem)).1); (case d => is_list); (case id => first | with_reducible assumption | exact .nil); (case e => is_list); (case ie => first | with_reducible assumption | exact .nil); (case un => ktr_units); (try dsimp only); (try k_fold))))
local macro_rules | `(tactic| walk_at "InvEndN") => `(tactic| ((rename Fr _ _ _ _ => fE9); (rename News _ _ _ _ => nE9); k_dflt (refine' grow_end fE9 nE9 ?D ?sub ?iz ?hm; (case D => repeat (first | exact List.mem_cons_self | refine List.mem_cons_of_mem _ ?_)); (case sub => (intro p hp; repeat' (first | exact hp | refine List.mem_cons_of_mem _ ?_))); (case hm => (intro z hz; exact if_neg hz)); (case iz => first | exact due_yes (by with_reducible assumption) (by with_reducible assumption) (by omega) | exact due_no (by with_reducible assumption) (by with_reducible assumption) (by omega) | exact rest_yes (by with_reducible assumption) (by with_reducible assumption) (by omega) (by omega) | exact rest_no (by with_reducible assumption) (by with_reducible assumption) (by omega) (by omega)))))
local macro_rules | `(tactic| walk_at "call builtin:list.append") => `(tactic| ((rename GrowCx _ _ _ => gcx9); k_dflt (refine' grow_append ?F ?N gcx9 ?D ?sub ?sz ?_; (case F => k_asm); (case N => k_asm); (case D => k_mem); (case sub => (intro p hp; repeat' (first | exact hp | refine List.mem_cons_of_mem _ ?_))); (case sz => (rw [IntsAre.length (by with_reducible assumption)]; first | (refine Nat.le_trans (dueP_len _ _ _) ?_; omega) | (refine Nat.le_trans (restP_len _ _ _) ?_; omega)))); intro h' F' N'; (try simp only [List.cons_append, List.nil_append] at N')))
local macro_rules | `(tactic| walk_at "subscriptTail Name Slice ref ref") => `(tactic| ((with_reducible show wpAny _ _ (subscriptTail _ (PySem.Expr.Slice _ _ none _) (Value.ref _) (Value.ref _)) _ _ _); k_dflt (refine' slice_z ?F ?N ?l ?p ?q ?i ?m ?_ ?s ?t ?z; (case F => k_asm); (case N => k_asm); (case l => is_list); (case p => kmk_part); (case q => kmk_part); (case i => with_reducible assumption); (case m => first | with_reducible exact kmk_all (by with_reducible assumption) | (with_reducible refine kmk_from (by with_reducible assumption) ?_; omega) | (with_reducible refine kmk_upto (by with_reducible assumption) ?_; omega)); (case s => with_unfolding_all rfl); (case t => kmk_pure); (case z => omega)); intro D' ws' h' F' N' l1 nD' kD' hI'; (have lk9 := l1); (try k_lt l1)))
local macro_rules | `(tactic| walk_at "call ref") => `(tactic| (k_here; (with_reducible show wpAny _ _ (call (Value.ref 28) [Value.int _ _, Value.int _ _]) _ _ _); k_dflt (refine' add_c ?u1 ?u2 ?u3 ?u4 ?u5 ?r1 ?_; (case u1 => k_asm); (case u2 => k_asm); (case u3 => k_asm); (case u4 => k_asm); (case u5 => first | exact rfl | assumption); (case r1 => ktr_room); k_whole; intro t9 h9 tk9 F9 G9; (have N9 := kept_news (by assumption) G9); (try dsimp only); (try k_fold))))
local macro_rules | `(tactic| walk_at "call ref") => `(tactic| (k_here; (with_reducible show wpAny _ _ (call (Value.ref 56) [Value.int _ _, Value.int _ _]) _ _ _); k_dflt (refine' sub_c ?u1 ?u2 ?u3 ?u4 ?u5 ?r1 ?_; (case u1 => k_asm); (case u2 => k_asm); (case u3 => k_asm); (case u4 => k_asm); (case u5 => first | exact rfl | assumption); (case r1 => ktr_room); k_whole; intro t9 h9 tk9 F9 G9; (have N9 := kept_news (by assumption) G9); (try dsimp only); (try k_fold))))
theorem told_c {prog : Program} {w : World} {mean : ExcName → Option Value} {mg mb : Str → Option Value}
    {dp un : Nat} {gd : Option (List Code)} {cn : Str} {cs : Scope} {a : Addr} {ccd : Value} {cl : List (Str × Addr)} {outer : List Env} {base : Heap} {L : Addr} {s : Shared} {Q E : Value → Shared → Prop} {l : Addr} {vs : List Value} {ns : List Int} {n : Int} {t4 : Tok}
    (hkc : cs.kind = .function) (FA : FramesAt (envX cn cs L a ccd cl :: outer) base s.heap)
    (Kb : ∀ b o, base.get? b = some o → s.heap.get? b = some o) (X : (hd.heap_39 w.params).In base) (T : Top hd.view_39 (looseW hd.view_39 []) mean mg mb base)
    (hl : s.heap.IsList l vs.toArray) (hi : IntsAre vs ns) (hlen : ns.length ≤ 6) (hsz : ∀ x ∈ ns, 0 ≤ x ∧ x ≤ 6)
    (hdp : dp + 5 < recursionLimit) (hu : un + 400 < cLine)
    (hnone : toldF ns n = none → ∀ (h' : Heap) (tk' : Nat), UpK (envX cn cs L a ccd cl :: outer) [] s.heap h' → Q .none { s with heap := h', toks := tk' })
    (hsome : ∀ zs, toldF ns n = some zs → ∀ (r : Addr) (vr : List Value) (h' : Heap) (tk' : Nat), UpK (envX cn cs L a ccd cl :: outer) [] s.heap h' → h'.get? r = some (lst vr) → IntsAre vr zs → s.heap.get? r = none → Q (.ref r) { s with heap := h', toks := tk' }) :
    wpAny (model prog w) (ktrTop dp un gd cn cs L a ccd cl outer) (call (.ref 75) [.ref l, .int n t4]) Q E s := by
  have hfill : (fun (_ : OpenLaw) (_ : Params → Frag) => True) PySem.Challenge.rw_tr0001_01 hd.heap_39 := by
    k_fill
    trivial
  clear hfill
  refine wpAny_call ?_
  refine' enterUC (X.keeps Kb) (T.nolimit.keeps Kb) ?look ?code ?room ?bind ?kind ?nodup (fun h₁ tk₁ cells hns hk₁ NC YC => ?body) ?c1 ?c2 ?c3
  case look => k_is
  case code => k_is
  case room => ktr_room
  case bind => exact BindsTo.of_eq rfl
  case kind => exact rfl
  case nodup => decide +kernel
  case c1 => exact rfl
  case c2 => exact rfl
  case c3 => exact rfl
  have bsz : base.get? s.heap.objs.size = none := by
    cases q : base.get? s.heap.objs.size with
    | none => rfl
    | some o => exact absurd (Heap.lt_size (Kb _ _ q)) (Nat.lt_irrefl _)
  have B' : Below (ktrTop dp un gd cn cs L a ccd cl outer) base (envX cn cs L a ccd cl :: outer) s.heap := below_of rfl Kb FA
  have X' := X.keeps Kb
  have T' := T.keeps Kb
  have F' : Fr s.heap s.heap.objs.size h₁ _ := ⟨hns, hk₁, Nat.le_refl _⟩
  generalize hL' : s.heap.objs.size = L' at *
  k_cells YC
  (try simp only [List.cons_append, List.nil_append] at NC)
  (try dsimp only)
  k_with_none
  k_with "M.assign" =>
    (with_reducible show wpAny _ _ (exec (Stmt.Assign [Expr.Name (Str.ofString "marks") _] _ _) _) _ _ _)
    refine wpAny_Assign_Name ?_ (by with_unfolding_all rfl)
  k_with "M.comp" =>
    (with_reducible show wpAny _ _ (eval (Expr.ListComp _ [⟨Expr.Tuple _ _ _, _, _, _⟩] _ _) _) _ _ _)
    k_dflt (refine' comp_expr (zs := marksF ns) (by k_asm) (by k_asm) ?clos9 ?cell9 ?kind9 ?names9 ?fold9 ?run9 ?fin9)
    k_dflt (case clos9 => with_unfolding_all rfl)
    k_dflt (case cell9 => decide)
    k_dflt (case kind9 => rfl)
    k_dflt (case names9 => decide)
    k_dflt (case fold9 => intro _; rfl)
    rotate_left
    intro DM hM tkM vsM FM NM lM nDM iM
    k_lt lM
    rotate_right
    all_goals (try unfold CompRun)
    all_goals (try k_fold)
  k_with "M.assign" =>
    (with_reducible show wpAny _ _ (exec (Stmt.Assign [Expr.Name (Str.ofString "steps") _] _ _) _) _ _ _)
    rename News _ _ _ _ => nZ9
    rename Fr _ _ _ _ => fZ9
    (try simp only [List.cons_append, List.nil_append] at nZ9)
    k_dflt (refine' comp_assign (zs := stepsF (marksF ns) n) (by k_asm) nZ9 rfl ?sw9S ?clos9S ?cell9S ?kind9S ?names9S ?loc9S ?pp9S ?fold9S ?run9S ?fin9S)
    k_dflt (case sw9S => with_unfolding_all rfl)
    k_dflt (case clos9S => with_unfolding_all rfl)
    k_dflt (case cell9S => decide)
    k_dflt (case kind9S => rfl)
    k_dflt (case names9S => decide)
    k_dflt (case loc9S => rfl)
    k_dflt (case pp9S => rfl)
    k_dflt (case fold9S => intro _; rfl)
    rotate_left
    intro DS hS tkS vsS FS NS lS iS
    k_lt lS
    rotate_right
    all_goals (try unfold CompRun)
    all_goals (try k_fold)
  k_with "M.iter" =>
    k_dflt (refine' tail2_list (s := { s with heap := _ }) (fun mk => (List.range (mk + 1 - 1).toNat).map fun (j : Nat) => (1 + (j : Int)) + n) (lst_is (nZ9 _ List.mem_cons_self).1) iM ?len9S rfl fZ9 nZ9 (fun _ => rfl) rfl (fun _ _ => rfl) (fun _ _ e => e) ?turn9S)
    k_dflt (case len9S => exact Nat.le_trans (steps_len hlen hsz) (by decide))
    intro z9 hh9 tk9 C9 D9 oC9 m9 u9 ys9 E9 hz9 hO9 hx9 FF9 NN9 kk9
    have zb9 := marks_bnd hlen hsz z9 hz9
    k_dflt (have hCg9 := (NN9 _ List.mem_cons_self).1)
    k_dflt (have hDg9 := (NN9 _ (List.mem_cons_of_mem _ List.mem_cons_self)).1)
    (try k_fold)
  k_with "M.iter" =>
    k_dflt (refine' inner_range (fun z => z + n) rfl (by assumption) ?sm9S (rangeSize_nat _ _) ?n59S (by assumption) hCg9 hDg9 rfl rfl rfl ?el9S)
    k_dflt (case sm9S => exact small_one (by omega) (by omega) (by omega) (by omega))
    k_dflt (case n59S => omega)
    intro z8 h8 tk8 oC8 m8 ys8 tj8 E8 hlo8 hhi8 hO8 hx8 hm8 FF8 NN8 kk8
    (try k_fold)
  k_with "M.assign" =>
    (with_reducible show wpAny _ _ (exec (Stmt.Assign [Expr.Name (Str.ofString "gaps") _] _ _) _) _ _ _)
    rename News _ _ _ _ => nY9
    rename Fr _ _ _ _ => fY9
    (try simp only [List.cons_append, List.nil_append] at nY9)
    k_dflt (refine' comp_assign (zs := gapsF (marksF ns) n) (by k_asm) nY9 rfl ?sw9G ?clos9G ?cell9G ?kind9G ?names9G ?loc9G ?pp9G ?fold9G ?run9G ?fin9G)
    k_dflt (case sw9G => with_unfolding_all rfl)
    k_dflt (case clos9G => with_unfolding_all rfl)
    k_dflt (case cell9G => decide)
    k_dflt (case kind9G => rfl)
    k_dflt (case names9G => decide)
    k_dflt (case loc9G => rfl)
    k_dflt (case pp9G => rfl)
    k_dflt (case fold9G => intro _; rfl)
    rotate_left
    intro DG hG tkG vsG FG NG lG iG
    k_lt lG
    rotate_right
    all_goals (try unfold CompRun)
    all_goals (try k_fold)
  k_with "M.iter" =>
    rename IsRange _ _ _ _ _ _ _ _ => rG9
    rename Fr _ _ hS _ => fV9
    rename News _ _ hS _ => nV9
    k_dflt (refine' tail2_range (n := (marksF ns).length) (s := { s with heap := hS }) (fun i => ((marksF ns).drop (i + 1)).map fun later => ((marksF ns).getD i 0 - later) + n) rG9 ?sm9G (rs_len _) ?len9G rfl fV9 nV9 (fun _ => rfl) rfl (fun _ _ => rfl) (by assumption) ?turn9G)
    k_dflt (case sm9G => exact small_one (by omega) (by omega) (by omega) (by omega))
    k_dflt (case len9G => exact Nat.le_trans (gaps_len hlen) (by decide))
    intro iG9 hh9 tk9 C9 D9 oC9 m9 u9 ys9 E9 hz9 hO9 hx9 FF9 NN9 kk9
    k_dflt (have hCg9 := (NN9 _ List.mem_cons_self).1)
    k_dflt (have hDg9 := (NN9 _ (List.mem_cons_of_mem _ List.mem_cons_self)).1)
    (try k_fold)
  k_with "M.iter" =>
    (with_reducible show wpAny _ _ (pyIter _) (Inner _ _ _ _ _ _ _ _ _ _ _ _ _ _ _ _ _ _) _ _)
    rename IntsAre _ _ => iI9
    k_dflt (have eI9 : ((iG9 : Int) + 1).toNat = iG9 + 1 := by omega)
    k_dflt (rw [eI9] at iI9)
    rename News _ _ _ _ => nI9
    k_dflt (refine' inner_list (fun later => ((marksF ns).getD iG9 0 - later) + n) rfl (list_at (nI9 _ List.mem_cons_self).1) iI9 ?len9I ?k9I hCg9 hDg9 ?nC9I ?nD9I rfl rfl ?el9I)
    k_dflt (case k9I => with_reducible assumption)
    k_dflt (case nC9I => exact ne_none (by with_reducible assumption) hCg9)
    k_dflt (case nD9I => exact ne_none (by with_reducible assumption) hDg9)
    k_dflt (case len9I => (rw [List.length_drop]; omega))
    intro z8 h8 tk8 oC8 m8 ys8 tj8 E8 hz8 hO8 hx8 hm8 FF8 NN8 kk8
    k_dflt (have hr8 := (hm8 (Str.ofString "row") (by decide)).trans hx9)
    (try k_fold)
  k_with "M.iter" =>
    (with_reducible show wpAny _ _ (pyIter _) (fun it s₂ => LoopAtV _ _ _ _ _ (Str.ofString "place") _ _ _ it s₂) _ _)
    rename IsRange _ _ _ _ _ _ _ _ => rD9
    rename News _ _ _ _ => nD9
    rename Fr _ _ _ _ => fD9
    k_dflt (refine' grow_range (st := -1) (n := (stepsF (marksF ns) n).length) (ws₀ := []) (dueP (stepsF (marksF ns) n) (gapsF (marksF ns) n)) rfl rD9 ?sm9D ?rn9D fD9 nD9 ?ne9D .nil ?turn9D ?done9D)
    k_dflt (case sm9D => exact small_down (by omega) (by omega) (by omega) (by omega))
    k_dflt (case rn9D => (rw [rangeSize_downNat]; omega))
    k_dflt (case ne9D => (k_all))
    rotate_left
    intro uD hD tkD wsD cD iD FD ND
    rotate_right
    intro i9D t9 h9 tk9 own9 ws9 c9 hi9D G9 iz9D F9 N9
    (try simp only [List.cons_append, List.nil_append] at N9)
    (try k_fold)
  k_with "M.iter" =>
    (with_reducible show wpAny _ _ (pyIter _) (fun it s₂ => LoopAtV _ _ _ _ _ (Str.ofString "place") _ _ _ it s₂) _ _)
    rename IsRange _ _ _ _ 1 _ _ _ => rR9
    rename News _ _ _ _ => nR9
    rename Fr _ _ _ _ => fR9
    k_dflt (refine' grow_range (st := 1) (n := (stepsF (marksF ns) n).length) (ws₀ := []) (restP (stepsF (marksF ns) n) (gapsF (marksF ns) n)) rfl rR9 ?sm9R ?rn9R fR9 nR9 ?ne9R .nil ?turn9R ?done9R)
    k_dflt (case sm9R => exact small_one (by omega) (by omega) (by omega) (by omega))
    k_dflt (case rn9R => exact rs_len _)
    k_dflt (case ne9R => k_all)
    rotate_left
    intro uR hR tkR wsR cR iR FR NR
    rotate_right
    intro i9R t9 h9 tk9 own9 ws9 c9 hi9R G9 iz9R F9 N9
    (try simp only [List.cons_append, List.nil_append] at N9)
    (try k_fold)
  k_with "M.comp" =>
    (with_reducible show wpAny _ _ (eval (Expr.ListComp _ [⟨Expr.Name (Str.ofString "hook") _, _, _, _⟩] _ _) _) _ _ _)
    k_dflt (refine' comp_expr (zs := (uldF (stepsF (marksF ns) n) (gapsF (marksF ns) n)).1.map fun x => x - n) (by k_asm) (by k_asm) ?clos9Z ?cell9Z ?kind9Z ?names9Z ?fold9Z ?run9Z ?fin9Z)
    k_dflt (case clos9Z => with_unfolding_all rfl)
    k_dflt (case cell9Z => decide)
    k_dflt (case kind9Z => rfl)
    k_dflt (case names9Z => decide)
    k_dflt (case fold9Z => intro _; rfl)
    rotate_left
    intro DZ hZ tkZ vsZ FZ NZ lZ nDZ iZ
    k_lt lZ
    rotate_right
    all_goals (try unfold CompRun)
    all_goals (try k_fold)
  k_with "M.iter" =>
    rename Fr _ _ _ _ => fW9
    rename News _ _ _ _ => nW9
    k_dflt (refine' tail_list (x := Str.ofString "hook") (s := { s with heap := _ }) (fun x => x - n) (by is_list) (by with_reducible assumption) ?len9W rfl fW9 nW9 (fun _ => rfl) rfl (fun _ _ e => e) ?turn9W)
    k_dflt (case len9W => have := (uld_len (uld_all (stepsF (marksF ns) n) (gapsF (marksF ns) n))).2; omega)
    intro z9 hh9 tk9 C9 D9 oC9 m9 u9 ys9 E9 hz9 hO9 hx9 FF9 NN9 kk9
    (try k_fold)
  k_with "call builtin:len" =>
    k_dflt (refine len_z (by is_list) (by with_reducible assumption) (by omega) ?_)
  k_with "call type:enumerate" =>
    refine call_enumerate_list (by is_list) ?_
    intro h9 he9 hit9 hz9 hk9
    k_dflt k_unfold
    (try dsimp only)
    k_dflt (refine' tail_enum _ hlH hi (by omega) rfl (by k_asm) (by k_asm) (fun _ => rfl) (fun _ => rfl) rfl (by decide) he9 hit9 hz9 hk9 ?turn9)
    intro i9 hh9 tk9 C9 D9 oC9 m9 t9 u9 ys9 E9 hi9 hO9 hx9 hy9 FF9 NN9 kk9
    (try k_fold)
  have hlH : h₁.IsList l vs.toArray := hl.at fun o e => hk₁ _ o e
  have lenM : (marksF ns).length = ns.length := by rw [List.length_map, List.length_range]
  have lenS : (stepsF (marksF ns) n).length ≤ 66 := steps_len hlen hsz
  have lenG : (gapsF (marksF ns) n).length ≤ 36 := gaps_len hlen
  k_steps
  · rename News _ _ _ _ => nE9
    rename Fr _ _ _ _ => fE9
    rename UpK _ [] s.heap _ => u1E
    rename UpK _ [] _ _ => u2E
    exact hsome _ (told_some (by with_reducible assumption) (by with_reducible assumption)) DZ vsZ _ _ (upk_keep (upk_two u1E u2E) rfl fE9.keep) (nE9 _ List.mem_cons_self).1 iZ (none_up (upk_two u1E u2E) (nE9 _ List.mem_cons_self).2.2)
  · rename News _ _ _ _ => nE9
    rename Fr _ _ _ _ => fE9
    rename UpK _ [] s.heap _ => u1E
    rename UpK _ [] _ _ => u2E
    exact hnone (told_no2 (by first | with_reducible assumption | simp_all)) _ _ (upk_keep (upk_two u1E u2E) rfl fE9.keep)
  · rename News _ _ _ _ => nE9
    rename Fr _ _ _ _ => fE9
    rename UpK _ [] s.heap _ => u1E
    exact hnone (told_no1 (by first | with_reducible assumption | simp_all)) _ _ (upk_keep u1E rfl fE9.keep)
end
end Mine
end
-- B13
section
open PySem PySem.W PyProof.Rows PySem.Spec PySem.Calls
set_option maxRecDepth 100000
set_option maxHeartbeats 8000000
set_option linter.unusedVariables false
namespace Mine

-- a for over a range whose name is a cell, growing one list
def GrowCS (D K : Addr) (led : List (Addr × Obj)) (y : Str) (m₀ : Str → Option Value) (zs : List Int) (m : Str → Option Value) (nx : List (Addr × Obj)) : Prop :=
  ∃ ws c oK u, nx = (D, listOf (List.toArray ws) c) :: (K, oK) :: led ∧ IntsAre ws zs ∧ oK.data = .cell u ∧ ∀ z, z ≠ y → m z = m₀ z

abbrev ForC (prog : Program) (w : World) (A : Around) (env : Env) (x : Str) (px : Pos) (body : List Stmt) (Q : Flow → Shared → Prop) (E : Value → Shared → Prop) (it : Value) (s₂ : Shared) : Prop :=
  codeAny (model prog w) A (.forLoop (.Name x px) it body [] env) (fun r s' => match r with | .ok f => Q f s' | .error e => cameBackBy (model prog w) A env E e s') s₂

section
variable {prog : Program} {w : World} {A : Around} {E : Value → Shared → Prop} {s : Shared} {env : Env} {h₀ : Heap} {x y : Str} {px : Pos} {body : List Stmt} {Q : Flow → Shared → Prop}

theorem for_cell {pos : Pos} {iter : Expr} (hs : ∀ x, foldedSetIterable iter env x = pure x) (h : wpAny (model prog w) A (eval iter env) (fun xv s₁ => wpAny (model prog w) A (pyIter xv) (fun it s₂ => ForC prog w A env x px body Q E it s₂) E s₁) E s) :
    wpAny (model prog w) A (exec (.For (.Name x px) iter body [] pos) env) Q E s := wpAny_For h hs

theorem cell_range {r D K : Addr} {a₀ b₀ : Int} {t₀ u₀ v₀ : Tok} {n c₀ : Nat} {m₀ : Str → Option Value} {led : List (Addr × Obj)} {ws₀ : List Value} {oK₀ : Obj} {uK₀ : Option Value} (P : Nat → List Int) (y : Str)
    (hE : PassesOwn (model prog w) A env E) (hx : env.kindOf x = some .cell) (hk : env.scope.kind = .function) (hcl : env.cells.lookup x = some K)
    (hh : A.handled = none) (hr : IsRange s.heap r a₀ b₀ 1 t₀ u₀ v₀) (hsmall : Builtin.Range.small a₀ b₀ 1 = true) (hn : Builtin.Range.rangeSize a₀ b₀ 1 = (n : Int)) (F : Fr h₀ env.locals s.heap m₀)
    (N : News h₀ env.locals s.heap ((D, listOf (List.toArray ws₀) c₀) :: (K, oK₀) :: led)) (hKD : K ≠ D) (hneD : ∀ p ∈ led, p.1 ≠ D) (hneK : ∀ p ∈ led, p.1 ≠ K) (hK₀ : oK₀.data = .cell uK₀) (h0 : IntsAre ws₀ (P 0))
    (turn : ∀ (i : Nat) t h tk own ws c oK u, i < n → GrowCx D ((K, oK) :: led) own → IntsAre ws (P i) → oK.data = .cell (some (.int (a₀ + (i : Int)) t)) → Fr h₀ env.locals h (fun z => if z = y then u else m₀ z) → News h₀ env.locals h ((D, listOf (List.toArray ws) c) :: (((K, oK) :: led) ++ own)) →
      wpAny (model prog w) A (execs body env) (InvPostN h₀ env.locals (GrowCS D K led y m₀ (P (i + 1))) own (D :: K :: led.map (·.1)) { s with heap := h, toks := tk } Q) E { s with heap := h, toks := tk })
    (done : ∀ u h tk ws c oK uK, IntsAre ws (P n) → oK.data = .cell uK → Fr h₀ env.locals h (fun z => if z = y then u else m₀ z) → News h₀ env.locals h ((D, listOf (List.toArray ws) c) :: (K, oK) :: led) → Q .next { s with heap := h, toks := tk }) :
    wpAny (model prog w) A (pyIter (.ref r)) (fun it s₂ => ForC prog w A env x px body Q E it s₂) E s := by
  refine wpAny_pyIter_range hr hsmall ?_
  have W : Walks prog w A s.heap.objs.size [s.heap.objs.size] [s.heap.objs.size] n (fun i v => ∃ t, v = .int (a₀ + i * 1) t)
      (fun i h => IsRangeIter h s.heap.objs.size (a₀ + (i : Nat) * 1) ((n : Int) - (i : Nat)) 1) := Walks.range hh _ a₀ 1 n
  generalize hI : s.heap.objs.size = I at *
  have ltI : ∀ b o, s.heap.get? b = some o → b ≠ I := fun b o e => Nat.ne_of_lt (hI ▸ Heap.lt_size e)
  have hLI : env.locals ≠ I := by
    obtain ⟨oL, es, ep, q, _⟩ := F.ns
    exact ltI _ _ q
  have hKm := N (K, oK₀) (List.mem_cons_of_mem _ List.mem_cons_self)
  have hDm := N (D, listOf (List.toArray ws₀) c₀) List.mem_cons_self
  have hKI : K ≠ I := ltI _ _ hKm.1
  have hDI : D ≠ I := ltI _ _ hDm.1
  have hledI : ∀ p ∈ led, p.1 ≠ I := fun p hp => ltI _ _ (N p (List.mem_cons_of_mem _ (List.mem_cons_of_mem _ hp))).1
  have hI₀ : h₀.get? I = none := by
    cases q : h₀.get? I with
    | none => rfl
    | some o => exact absurd rfl (ltI _ _ (F.keep _ _ q))
  have old₀ : ∀ b o, h₀.get? b = some o → b ≠ I := fun b o e q => by rw [q, hI₀] at e; cases e
  refine codeAny_forLoop
    (fun k s' => ∃ h' tk i ws c oK uK u, s' = { s with heap := h', toks := tk } ∧ IsRangeIter h' I (a₀ + (i : Nat) * 1) ((n : Int) - (i : Nat)) 1 ∧ Fr h₀ env.locals h' (fun z => if z = y then u else m₀ z) ∧ News h₀ env.locals h' ((D, listOf (List.toArray ws) c) :: (K, oK) :: led) ∧ IntsAre ws (P i) ∧ oK.data = .cell uK ∧ i ≤ n ∧ k = n + 1 - i) ?_ (n + 1)
    ⟨_, _, 0, ws₀, c₀, oK₀, uK₀, m₀ y, rfl, by rw [hn, ← hI]; simpa using Heap.get?_push_size s.heap rfl, ?_, fun p hp => ⟨Heap.get?_push_of_some _ (N p hp).1, (N p hp).2⟩, h0, hK₀, Nat.zero_le _, rfl⟩
  case refine_2 =>
    have e : (fun z => if z = y then m₀ y else m₀ z) = m₀ := by
      funext z
      by_cases h1 : z = y
      · simp [h1]
      · simp only [if_neg h1]
    rw [e]; exact F.push _
  rintro k s' ⟨h', tk, i, ws, c, oK, uK, u, rfl, hst', F', N', iz, hd, hi, rfl⟩
  have next : ∀ h₁ : Heap, (∀ b o, b ∉ [I] → h'.get? b = some o → h₁.get? b = some o) → Fr h₀ env.locals h₁ (fun z => if z = y then u else m₀ z) ∧ News h₀ env.locals h₁ ((D, listOf (List.toArray ws) c) :: (K, oK) :: led) := fun h₁ hk₁ =>
    ⟨⟨F'.ns.at' fun o e => hk₁ _ o (fun q => hLI (List.mem_singleton.mp q)) e, fun b o e => hk₁ b o (fun q => old₀ b o e (List.mem_singleton.mp q)) (F'.keep b o e), F'.above⟩, fun p hp => ⟨hk₁ _ _ (fun q => by
      have q := List.mem_singleton.mp q
      rcases List.mem_cons.mp hp with rfl | hp
      · exact hDI q
      rcases List.mem_cons.mp hp with rfl | hp
      · exact hKI q
      · exact hledI p hp q) (N' p hp).1, (N' p hp).2⟩⟩
  by_cases hlt : i < n
  · refine W.item i _ _ _ hlt hst' fun v h₁ tk₁ hP hst₁ hk₁ => ?_
    obtain ⟨t, rfl⟩ := hP
    obtain ⟨F₁, N₁⟩ := next h₁ hk₁
    have zK := N₁ (K, oK) (List.mem_cons_of_mem _ List.mem_cons_self)
    refine wpAny_assign_Name (wpAny_storeName_cell hk hx hcl ⟨oK, zK.1, hd⟩ fun h₂ hv hs₂ => ?_)
    obtain ⟨oK', ho', hd'⟩ := hv
    have F₂ : Fr h₀ env.locals h₂ (fun z => if z = y then u else m₀ z) := F₁.change hs₂ zK.2.1 zK.2.2
    have hst₂ : IsRangeIter h₂ I (a₀ + ((i + 1 : Nat) : Int) * 1) ((n : Int) - ((i + 1 : Nat) : Int)) 1 := W.frame (i + 1) _ _ hst₁ fun b hb o e => hs₂.extBut b o (fun q => hKI (q ▸ List.mem_singleton.mp hb)) e
    obtain ⟨oI, heI⟩ : ∃ oI, h₂.get? I = some oI := ⟨_, hst₂⟩
    have N₂ : News h₀ env.locals h₂ ((D, listOf (List.toArray ws) c) :: (((K, oK') :: led) ++ [(I, oI)])) := by
      intro p hp
      rcases List.mem_cons.mp hp with rfl | hp
      · have z := N₁ _ List.mem_cons_self
        exact ⟨hs₂.extBut _ _ (Ne.symm hKD) z.1, z.2⟩
      rcases List.mem_append.mp hp with hp | hp
      · rcases List.mem_cons.mp hp with rfl | hp
        · exact ⟨ho', zK.2⟩
        · have z := N₁ p (List.mem_cons_of_mem _ (List.mem_cons_of_mem _ hp))
          exact ⟨hs₂.extBut _ _ (hneK p hp) z.1, z.2⟩
      · rw [List.mem_singleton.mp hp]
        exact ⟨heI, Ne.symm hLI, hI₀⟩
    have hcx : GrowCx D ((K, oK') :: led) [(I, oI)] := by
      intro p hp
      rcases List.mem_append.mp hp with hp | hp
      · rcases List.mem_cons.mp hp with rfl | hp
        · exact hKD
        · exact hneD p hp
      · rw [List.mem_singleton.mp hp]; exact Ne.symm hDI
    have e1 : a₀ + (i : Int) * 1 = a₀ + (i : Int) := by omega
    rw [e1] at hd'
    have key : ∀ s₃, InvEndN h₀ env.locals (GrowCS D K led y m₀ (P (i + 1))) [(I, oI)] (D :: K :: led.map (·.1)) { s with heap := h₂, toks := tk₁ } s₃ → ∃ m, m < n + 1 - i ∧ ∃ h' tk i ws c oK uK u, s₃ = { s with heap := h', toks := tk } ∧ IsRangeIter h' I (a₀ + (i : Nat) * 1) ((n : Int) - (i : Nat)) 1 ∧ Fr h₀ env.locals h' (fun z => if z = y then u else m₀ z) ∧ News h₀ env.locals h' ((D, listOf (List.toArray ws) c) :: (K, oK) :: led) ∧ IntsAre ws (P i) ∧ oK.data = .cell uK ∧ i ≤ n ∧ m = n + 1 - i := by
      rintro s₃ ⟨h₃, tk₃, m', news', nx, rfl, F₃, N₃, hnx, hown, _, ws', c', oK'', u', rfl, iz', hd'', hm'⟩
      refine ⟨n + 1 - (i + 1), by omega, h₃, tk₃, i + 1, ws', c', oK'', u', m' y, rfl, ?_, ?_, fun p hp => N₃ p (hnx p hp), iz', hd'', hlt, rfl⟩
      · refine W.frame (i + 1) _ _ hst₂ fun b hb o e => ?_
        rw [List.mem_singleton.mp hb] at e ⊢
        rw [heI] at e; cases e
        exact (N₃ (I, oI) (hown _ List.mem_cons_self)).1
      · have e : (fun z => if z = y then m' y else m₀ z) = m' := by
          funext z
          by_cases h1 : z = y
          · simp [h1]
          · simp only [if_neg h1]; exact (hm' z h1).symm
        rw [e]; exact F₃
    refine wpAny_mono (wpAny_passesOwn hE (turn i t h₂ tk₁ [(I, oI)] ws c oK' u hlt hcx iz hd' F₂ N₂)) (fun f s₃ h₃ => ?_) fun _ _ e => e
    cases f with
    | ret v => exact h₃
    | brk => exact h₃
    | cont => exact key _ h₃
    | next => exact key _ h₃
  · obtain rfl : i = n := Nat.le_antisymm hi (Nat.not_lt.mp hlt)
    refine W.done _ _ _ hst' fun h₁ tk₁ hk₁ => ?_
    obtain ⟨F₁, N₁⟩ := next h₁ hk₁
    exact wpAny_execs_nil (done u h₁ tk₁ ws c oK uK iz hd F₁ N₁)
end
theorem growC_end {h₀ : Heap} {L D K : Addr} {m' m₀ : Str → Option Value} {y : Str} {led own news : List (Addr × Obj)} {ws : List Value} {c : Nat} {oK : Obj} {u : Option Value} {zs : List Int} {s₁ : Shared} {h' : Heap} {tk : Nat}
    (F : Fr h₀ L h' m') (N : News h₀ L h' news) (hD : (D, listOf (List.toArray ws) c) ∈ news) (sub : ∀ p ∈ ((K, oK) :: led) ++ own, p ∈ news) (iz : IntsAre ws zs) (hd : oK.data = .cell u) (hm : ∀ z, z ≠ y → m' z = m₀ z) :
    InvEndN h₀ L (GrowCS D K led y m₀ zs) own (D :: K :: led.map (·.1)) s₁ { s₁ with heap := h', toks := tk } :=
  InvEndN.intro (nx := (D, listOf (List.toArray ws) c) :: (K, oK) :: led) F N ⟨ws, c, oK, u, rfl, iz, hd, hm⟩ rfl
    (fun p hp => (List.mem_cons.mp hp).elim (fun e => e ▸ hD) fun h => sub p (List.mem_append.mpr (.inl h)))
    fun p hp => sub p (List.mem_append.mpr (.inr hp))
end Mine
end
-- B14
section
open PySem PySem.W PyProof.Rows PySem.Spec PySem.Calls
set_option maxRecDepth 100000
set_option maxHeartbeats 8000000
set_option linter.unusedVariables false
namespace Mine
section
variable {prog : Program} {w : World} {A : Around} {R : Result → Shared → Prop} {elt : Expr} {gens : List Comprehension} {scope : Scope} {pos : Pos} {cenv : Env} {C I D : Addr} {fp wr : List Addr} {n d : Nat} {B : Nat → (Str → Option Value) → (Str → Option Value) → Prop} {St : Nat → Heap → Prop} {target iter : Expr}
theorem emit_loopS {sp : Pos} {s : Shared} {m₁ : Str → Option Value} {ys : List Value} (r : Nat → Int) (W : Src prog w A cenv C target I fp wr n B St)
    (he : compTurn (.ListComp elt gens scope pos) d (.ref I) (.ref D) cenv = EmitT (.ListComp elt gens scope pos) d target sp elt (.ref I) (.ref D) cenv)
    (hDf : D ∉ fp) (hwr : ∀ b ∈ wr, b ∈ fp) (hDC : D ≠ C) (hCw : C ∉ wr) (st0 : St 0 s.heap) (hD : s.heap.get? D = some (lst ys)) (hC : s.heap.Ns C m₁) (hsz : ys.length + n ≤ 1000) (M : (Str → Option Value) → Prop) (hM : M m₁) (hMB : ∀ i m m', M m → B i m m' → M m')
    (turn : ∀ i h tk m₂ m₃ ysv (E' : Value → Shared → Prop), i < n → M m₂ → B i m₂ m₃ → St (i + 1) h → Kp wr C D s.heap h → h.get? D = some (lst ysv) → h.Ns C m₃ →
      wpAny (model prog w) A (eval elt cenv) (fun y s' => ∃ h' tk' t, y = .int (r i) t ∧ s' = { s with heap := h', toks := tk' } ∧ ∀ b o, h.get? b = some o → h'.get? b = some o) E' { s with heap := h, toks := tk })
    (fin : ∀ h tk m₂ zs, IntsAre zs ((List.range n).map r) → Kp wr C D s.heap h → h.get? D = some (lst (ys ++ zs)) → h.Ns C m₂ → M m₂ → R (.ok .next) { s with heap := h, toks := tk }) :
    codeAny (model prog w) A (.compLoop (.ListComp elt gens scope pos) d (.ref I) (.ref D) cenv) R s := by
  have hDw : D ∉ wr := fun q => hDf (hwr _ q)
  refine codeAny_loop rfl (fun k s' => ∃ h' tk i m₂ zs, s' = { s with heap := h', toks := tk } ∧ i ≤ n ∧ k = n + 1 - i ∧ IntsAre zs ((List.range i).map r) ∧ St i h' ∧ Kp wr C D s.heap h' ∧ h'.get? D = some (lst (ys ++ zs)) ∧ h'.Ns C m₂ ∧ M m₂) ?_ (n + 1)
    ⟨s.heap, s.toks, 0, m₁, [], rfl, Nat.zero_le _, rfl, .nil, st0, fun _ _ _ _ _ e => e, by rw [List.append_nil]; exact hD, hC, hM⟩
  rintro k s' ⟨h', tk, i, m₂, zs, rfl, hi, rfl, iz, st, K, hD', hC', hM'⟩
  show wpAny _ A ((compTurn (.ListComp elt gens scope pos) d (.ref I) (.ref D) cenv).onRaise (fun x => do noteFrame x cenv; theTreesLotGoes x)) _ _ _
  refine wpAny_noted ?_
  rw [he]
  refine wpAny_bind (wpAny_standAt (wpAny_bind ?_))
  by_cases hlt : i < n
  · refine wpAny_mono (W.turn i _ m₂ ?q _ hlt st hC' ?a) ?b fun _ _ x => x
    case b =>
      intro rr s₁ hx
      obtain ⟨v, e, hv⟩ := hx
      subst e
      refine wpAny_bind (wpAny_mono hv ?_ fun _ _ x => x)
      intro _ s₂ h₂
      refine wpAny_bind (wpAny_mono h₂ ?_ fun _ _ x => x)
      intro _ s₃ h₃
      exact h₃
    case a =>
      intro h₂ tk₂ m₃ hB st₂ hn₂ hk₂
      have hD2 : h₂.get? D = some (lst (ys ++ zs)) := hk₂ _ _ hDw hDC hD'
      have K2 : Kp wr C D s.heap h₂ := fun b o h1 h2 h3 e => hk₂ b o h1 h2 (K b o h1 h2 h3 e)
      refine wpAny_bind (wpAny_bind (wpAny_mono (turn i h₂ tk₂ m₂ m₃ _ _ hlt hM' hB st₂ K2 hD2 hn₂) (fun y s₃ h₃ => ?_) fun _ _ x => x))
      obtain ⟨h₃, tk₃, t, rfl, rfl, k₃⟩ := h₃
      have hzl : zs.length = i := by rw [iz.length, List.length_map, List.length_range]
      have hszz : (ys ++ zs).toArray.size ≤ sizeLine := by
        rw [List.size_toArray, List.length_append, hzl]; exact Nat.le_trans (by omega : ys.length + i ≤ 1000) (by decide)
      refine wpAny_bind (append_at (hsz := hszz) (k₃ _ _ hD2) fun h₄ hs₄ hD₄ => wpAny_pure (wpAny_pure ?_))
      refine ⟨rfl, n + 1 - (i + 1), by omega, h₄, tk₃, i + 1, m₃, zs ++ [.int (r i) t], rfl, hlt, rfl, ?_, W.frame _ _ _ st₂ fun b hb o e => hs₄.extBut b o (fun q => hDf (q ▸ hb)) (k₃ _ _ e),
        fun b o h1 h2 h3 e => hs₄.extBut b o h3 (k₃ _ _ (K2 b o h1 h2 h3 e)), ?_, (hn₂.at' fun o e => k₃ _ _ e).sameBut hs₄ (Ne.symm hDC), hMB _ _ _ hM' hB⟩
      · rw [List.range_succ, List.map_append]
        exact IntsAre.append iz (.cons (r i) t .nil)
      · rw [hD₄, ← List.append_assoc]
        exact congrArg some (LCg.lst_snoc _ _)
  · obtain rfl : i = n := Nat.le_antisymm hi (Nat.not_lt.mp hlt)
    refine W.done _ _ _ st fun h₂ tk₂ hk₂ => wpAny_pure ?_
    exact fin h₂ tk₂ m₂ zs iz (fun b o h1 h2 h3 e => hk₂ b o h1 (K b o h1 h2 h3 e)) (hk₂ _ _ hDw hD') (hC'.at' fun o e => hk₂ _ o hCw e) hM'

end

section
variable {prog : Program} {w : World} {A : Around} {E : Value → Shared → Prop} {s : Shared} {h₀ : Heap} {L : Addr} {m : Str → Option Value} {env : Env} {news : List (Addr × Obj)}
  {elt t0 i0 : Expr} {ifs : List Expr} {gs : List Comprehension} {scope : Scope} {cl : List (Str × Addr)} {pos : Pos} {zs : List Int}

abbrev CompTailG (prog : Program) (w : World) (A : Around) (s : Shared) (env : Env) (elt : Expr) (g : Comprehension) (gs : List Comprehension) (scope : Scope) (cl : List (Str × Addr)) (pos : Pos) (zs : List Int) (it : Value) (s₂ : Shared) : Prop :=
  ∃ h2 tk2, s₂ = { s with heap := h2, toks := tk2 } ∧ (∀ b o, s.heap.get? b = some o → h2.get? b = some o) ∧
    ∀ D C h₁ tk₁ (R : Result → Shared → Prop), h2.objs.size ≤ D → h2.objs.size ≤ C → D ≠ C → (∀ b o, h2.get? b = some o → h₁.get? b = some o) → h₁.get? D = some (lst []) → h₁.Ns C (fun _ => none) →
      (∀ h tk m' vs, IntsAre vs zs → h.get? D = some (lst vs) → h.Ns C m' → (∀ b o, s.heap.get? b = some o → h.get? b = some o) → R (.ok .next) { s with heap := h, toks := tk }) →
      codeAny (model prog w) A (.compStart (.ListComp elt (g :: gs) scope pos) 0 it (.ref D) (compEnvC scope cl C env)) R { s with heap := h₁, toks := tk₁ }
def CompRunG (prog : Program) (w : World) (A : Around) (E : Value → Shared → Prop) (s : Shared) (env : Env) (elt : Expr) (g : Comprehension) (gs : List Comprehension) (scope : Scope) (cl : List (Str × Addr)) (pos : Pos) (zs : List Int) : Prop :=
  wpAny (model prog w) A (eval g.iter env) (fun xv s₁ => wpAny (model prog w) A (pyIter xv) (CompTailG prog w A s env elt g gs scope cl pos zs) E s₁) E s
-- one name of the scope is a cell
abbrev CompTailK (prog : Program) (w : World) (A : Around) (s : Shared) (env : Env) (elt : Expr) (g : Comprehension) (gs : List Comprehension) (scope : Scope) (kx : Str) (cl : List (Str × Addr)) (pos : Pos) (zs : List Int) (it : Value) (s₂ : Shared) : Prop :=
  ∃ h2 tk2, s₂ = { s with heap := h2, toks := tk2 } ∧ (∀ b o, s.heap.get? b = some o → h2.get? b = some o) ∧
    ∀ D C K h₁ tk₁ (R : Result → Shared → Prop), h2.objs.size ≤ D → h2.objs.size ≤ C → h2.objs.size ≤ K → D ≠ C → D ≠ K → C ≠ K → (∀ b o, h2.get? b = some o → h₁.get? b = some o) → h₁.get? D = some (lst []) → h₁.Ns C (fun _ => none) → h₁.get? K = some { cls := .type "cell", data := .cell none } →
      (∀ h tk m' vs, IntsAre vs zs → h.get? D = some (lst vs) → h.Ns C m' → (∀ b o, s.heap.get? b = some o → h.get? b = some o) → R (.ok .next) { s with heap := h, toks := tk }) →
      codeAny (model prog w) A (.compStart (.ListComp elt (g :: gs) scope pos) 0 it (.ref D) (compEnvC scope ((kx, K) :: cl) C env)) R { s with heap := h₁, toks := tk₁ }
def CompRunK (prog : Program) (w : World) (A : Around) (E : Value → Shared → Prop) (s : Shared) (env : Env) (elt : Expr) (g : Comprehension) (gs : List Comprehension) (scope : Scope) (kx : Str) (cl : List (Str × Addr)) (pos : Pos) (zs : List Int) : Prop :=
  wpAny (model prog w) A (eval g.iter env) (fun xv s₁ => wpAny (model prog w) A (pyIter xv) (CompTailK prog w A s env elt g gs scope kx cl pos zs) E s₁) E s
theorem comp_blockG {RR : Value → Addr → Result → Shared → Prop} {it : Value} {s₂ : Shared} {h2 : Heap} {tk2 : Nat} (e2 : s₂ = { s with heap := h2, toks := tk2 })
    (hcell : ∀ z ∈ scope.names, z.2 ≠ .cell) (hkind : scope.kind = .function)
    (run : ∀ D C h₁ tk₁ (R : Result → Shared → Prop), h2.objs.size ≤ D → h2.objs.size ≤ C → D ≠ C → (∀ b o, h2.get? b = some o → h₁.get? b = some o) → h₁.get? D = some (lst []) → h₁.Ns C (fun _ => none) →
      (∀ h tk m' vs, IntsAre vs zs → h.get? D = some (lst vs) → h.Ns C m' → (∀ b o, s.heap.get? b = some o → h.get? b = some o) → R (.ok .next) { s with heap := h, toks := tk }) →
      codeAny (model prog w) A (.compStart (.ListComp elt (⟨t0, i0, ifs, 0⟩ :: gs) scope pos) 0 it (.ref D) (compEnvC scope cl C env)) R { s with heap := h₁, toks := tk₁ })
    (fin : ∀ D C h tk m' vs, h2.objs.size ≤ D → h2.objs.size ≤ C → D ≠ C → IntsAre vs zs → h.get? D = some (lst vs) → h.Ns C m' → (∀ b o, s.heap.get? b = some o → h.get? b = some o) → RR (.ref D) C (.ok .next) { s with heap := h, toks := tk }) :
    wpAny (model prog w) A (newList []) (fun acc s₃ => wpAny (model prog w) A (newFunctionEnv scope env.globals cl [] env.qual none .none (some env)) (fun cenv s₄ =>
      codeAny (model prog w) A (.compStart (.ListComp elt (⟨t0, i0, ifs, 0⟩ :: gs) scope pos) 0 it acc { cenv with scope := relabel scope env }) (RR acc cenv.locals) s₄) E s₃) E s₂ := by
  subst e2
  refine wpAny_newObj_type (wpAny_newFunctionEnv hcell (by intro y hy; simp at hy) (fun h₁ hns₁ hsb₁ => ?_) hkind)
  dsimp only at hns₁ hsb₁ ⊢
  generalize hH2 : h2.push { cls := .type "list", dict := none, data := .seq ([] : List Value).toArray } = H2 at hns₁ hsb₁ ⊢
  have hC : H2.objs.size = h2.objs.size + 1 := by rw [← hH2, Heap.size_push]
  have hDC : h2.objs.size ≠ H2.objs.size := by rw [hC]; exact Nat.ne_of_lt (Nat.lt_succ_self _)
  have old : ∀ b o, h2.get? b = some o → h₁.get? b = some o := fun b o e =>
    hsb₁.extBut b o (by rw [hC]; exact Nat.ne_of_lt (Nat.lt_succ_of_lt (Heap.lt_size e))) (Heap.get?_push_of_some _ (hH2 ▸ Heap.get?_push_of_some _ e))
  have hacc : h₁.get? h2.objs.size = some (lst []) := hsb₁.extBut _ _ hDC (Heap.get?_push_of_some _ (hH2 ▸ Heap.get?_push_size _ rfl))
  refine run h2.objs.size H2.objs.size h₁ _ (RR (.ref h2.objs.size) H2.objs.size) (Nat.le_refl _) (by rw [hC]; exact Nat.le_succ _) hDC old hacc hns₁ ?_
  intro h tk m' vs iz hD hn K
  exact fin _ _ h tk m' vs (Nat.le_refl _) (by rw [hC]; exact Nat.le_succ _) hDC iz hD hn K

theorem comp_assignG {y : Str} {py spos : Pos} {Q : Flow → Shared → Prop} (F : Fr h₀ L s.heap m) (N : News h₀ L s.heap news) (hLe : env.locals = L)
    (hsw : swapsWith (.ListComp elt (⟨t0, i0, ifs, 0⟩ :: gs) scope pos) (some (.Name y py)) spos.line env = pure true)
    (hclos : closureFor scope env = pure cl) (hcell : ∀ z ∈ scope.names, z.2 ≠ .cell) (hkind : scope.kind = .function)
    (hnames : ∀ z ∈ scope.names, z.2 = .local → scope.names.lookup z.1 = some .local)
    (hy : env.kindOf y = some .local) (hp : (env.scope.kind == .class || (env.scope.kind == .module && env.locals != env.globals)) = false)
    (hs : ∀ x, foldedSetIterable i0 env x = pure x)
    (run : CompRunG prog w A E s env elt ⟨t0, i0, ifs, 0⟩ gs scope cl pos zs)
    (fin : ∀ D h tk vs, Fr h₀ L h (fun z => if z = y then some (.ref D) else m z) → News h₀ L h ((D, lst vs) :: news) → (∀ p ∈ news, p.1 < D) → IntsAre vs zs → Q .next { s with heap := h, toks := tk }) :
    wpAny (model prog w) A (exec (.Assign [.Name y py] (.ListComp elt (⟨t0, i0, ifs, 0⟩ :: gs) scope pos) spos) env) Q E s := by
  subst hLe
  rw [exec_Assign_Name_used _ _ _ _ hsw]
  refine wpAny_bind (wpAny_standAt (wpAny_bind ?_))
  show wpAny _ A (do let _ ← comprehension (.ListComp elt (⟨t0, i0, ifs, 0⟩ :: gs) scope pos) scope env _ (newList []) false (eval i0 env) (some (assign (.Name y py) env))) _ _ s
  refine wpAny_bind (wpAny_mono (wpAny_comprehension_free (use := some (assign (.Name y py) env)) (Q := fun _ s' => Q .next s') rfl hs hclos hkind hnames
    (wpAny_mono run (fun xv s₁ h₁ => wpAny_mono h₁ (fun it s₂ h₂ => ?_) fun _ _ e => e) fun _ _ e => e)) (fun _ s' hq => wpAny_pure (wpAny_pure hq)) fun _ _ e => e)
  obtain ⟨h2, tk2, e2, k2, run'⟩ := h₂
  refine comp_blockG e2 hcell hkind run' ?_
  intro D C h tk m' vs hD hC hDC iz hDh hn K
  have nD := none_ge k2 hD
  have nC := none_ge k2 hC
  have gD : h₀.get? D = none := none_base F.keep nD
  have gC : h₀.get? C = none := none_base F.keep nC
  have hLlt : env.locals < h2.objs.size := by
    obtain ⟨oL, es, ep, q, _⟩ := F.ns
    exact Heap.lt_size (k2 _ _ q)
  have hLD : env.locals ≠ D := Nat.ne_of_lt (Nat.lt_of_lt_of_le hLlt hD)
  have hLC : env.locals ≠ C := Nat.ne_of_lt (Nat.lt_of_lt_of_le hLlt hC)
  show wpAny _ A (assign (.Name y py) env (.ref D)) _ _ _
  refine wpAny_assign_Name (wpAny_storeName_local hy (F.ns.at' fun o e => K _ o e) (fun h₃ hn₃ hs₃ => ?_) hp)
  have hL₀ : h₀.get? env.locals = none := Heap.get?_none_of_le F.above
  have F₃ : Fr h₀ env.locals h₃ (fun z => if z = y then some (.ref D) else m z) := ⟨hn₃, fun b o e => hs₃.extBut b o (fun q => by rw [q, hL₀] at e; cases e) (K _ _ (F.keep b o e)), F.above⟩
  refine ⟨m', hn.sameBut hs₃ (Ne.symm hLC), fun h'' hs'' => fin D h'' _ vs (F₃.change hs'' (Ne.symm hLC) gC) (fun p hp => ?_) (fun p hp => ?_) iz⟩
  · rcases List.mem_cons.mp hp with rfl | hp
    · exact ⟨hs''.extBut _ _ hDC (hs₃.extBut _ _ (Ne.symm hLD) hDh), Ne.symm hLD, gD⟩
    · have z := N p hp
      exact ⟨hs''.extBut _ _ (fun q => by rw [q, nC] at z; exact absurd z.1 (by simp)) (hs₃.extBut _ _ z.2.1 (K _ _ z.1)), z.2⟩
  · exact Nat.lt_of_lt_of_le (Heap.lt_size (k2 _ _ (N p hp).1)) hD

theorem comp_exprG {Q : Value → Shared → Prop} (F : Fr h₀ L s.heap m) (N : News h₀ L s.heap news)
    (hclos : closureFor scope env = pure cl) (hcell : ∀ z ∈ scope.names, z.2 ≠ .cell) (hkind : scope.kind = .function)
    (hnames : ∀ z ∈ scope.names, z.2 = .local → scope.names.lookup z.1 = some .local)
    (hs : ∀ x, foldedSetIterable i0 env x = pure x)
    (run : CompRunG prog w A E s env elt ⟨t0, i0, ifs, 0⟩ gs scope cl pos zs)
    (fin : ∀ D h tk vs, Fr h₀ L h m → News h₀ L h ((D, lst vs) :: news) → (∀ p ∈ news, p.1 < D) → s.heap.get? D = none → IntsAre vs zs → (∀ b o, s.heap.get? b = some o → h.get? b = some o) → Q (.ref D) { s with heap := h, toks := tk }) :
    wpAny (model prog w) A (eval (.ListComp elt (⟨t0, i0, ifs, 0⟩ :: gs) scope pos) env) Q E s := by
  rw [eval_ListComp]
  refine wpAny_comprehension_free (use := none) rfl hs hclos hkind hnames (wpAny_mono run (fun xv s₁ h₁ => wpAny_mono h₁ (fun it s₂ h₂ => ?_) fun _ _ e => e) fun _ _ e => e)
  obtain ⟨h2, tk2, e2, k2, run'⟩ := h₂
  refine comp_blockG e2 hcell hkind run' ?_
  intro D C h tk m' vs hD hC hDC iz hDh hn K
  have nD := none_ge k2 hD
  have nC := none_ge k2 hC
  have gD : h₀.get? D = none := none_base F.keep nD
  have gC : h₀.get? C = none := none_base F.keep nC
  have hLlt : L < h2.objs.size := by
    obtain ⟨oL, es, ep, q, _⟩ := F.ns
    exact Heap.lt_size (k2 _ _ q)
  have hLD : L ≠ D := Nat.ne_of_lt (Nat.lt_of_lt_of_le hLlt hD)
  have hLC : L ≠ C := Nat.ne_of_lt (Nat.lt_of_lt_of_le hLlt hC)
  refine ⟨m', hn, fun h'' hs'' => fin D h'' _ vs ((F.keeps K).change hs'' (Ne.symm hLC) gC) (fun p hp => ?_) (fun p hp => ?_) nD iz fun b o e => hs''.extBut b o (fun q => by have q' : b = C := q; rw [q', nC] at e; cases e) (K b o e)⟩
  · rcases List.mem_cons.mp hp with rfl | hp
    · exact ⟨hs''.extBut _ _ hDC hDh, Ne.symm hLD, gD⟩
    · have z := N p hp
      exact ⟨hs''.extBut _ _ (fun q => by rw [q, nC] at z; exact absurd z.1 (by simp)) (K _ _ z.1), z.2⟩
  · exact Nat.lt_of_lt_of_le (Heap.lt_size (k2 _ _ (N p hp).1)) hD
theorem comp_blockK {kx : Str} {RR : Value → Addr → Result → Shared → Prop} {it : Value} {s₂ : Shared} {h2 : Heap} {tk2 : Nat} (e2 : s₂ = { s with heap := h2, toks := tk2 })
    (hcell : ∀ n, cellsFrom n scope.names cl = (kx, n) :: cl) (hpush : ∀ h, pushCells h scope.names = h.push { cls := .type "cell", data := .cell none }) (hkind : scope.kind = .function)
    (run : ∀ D C K h₁ tk₁ (R : Result → Shared → Prop), h2.objs.size ≤ D → h2.objs.size ≤ C → h2.objs.size ≤ K → D ≠ C → D ≠ K → C ≠ K → (∀ b o, h2.get? b = some o → h₁.get? b = some o) → h₁.get? D = some (lst []) → h₁.Ns C (fun _ => none) → h₁.get? K = some { cls := .type "cell", data := .cell none } →
      (∀ h tk m' vs, IntsAre vs zs → h.get? D = some (lst vs) → h.Ns C m' → (∀ b o, s.heap.get? b = some o → h.get? b = some o) → R (.ok .next) { s with heap := h, toks := tk }) →
      codeAny (model prog w) A (.compStart (.ListComp elt (⟨t0, i0, ifs, 0⟩ :: gs) scope pos) 0 it (.ref D) (compEnvC scope ((kx, K) :: cl) C env)) R { s with heap := h₁, toks := tk₁ })
    (fin : ∀ D C h tk m' vs, h2.objs.size ≤ D → h2.objs.size ≤ C → D ≠ C → IntsAre vs zs → h.get? D = some (lst vs) → h.Ns C m' → (∀ b o, s.heap.get? b = some o → h.get? b = some o) → RR (.ref D) C (.ok .next) { s with heap := h, toks := tk }) :
    wpAny (model prog w) A (newList []) (fun acc s₃ => wpAny (model prog w) A (newFunctionEnv scope env.globals cl [] env.qual none .none (some env)) (fun cenv s₄ =>
      codeAny (model prog w) A (.compStart (.ListComp elt (⟨t0, i0, ifs, 0⟩ :: gs) scope pos) 0 it acc { cenv with scope := relabel scope env }) (RR acc cenv.locals) s₄) E s₃) E s₂ := by
  subst e2
  refine wpAny_newObj_type ?_
  simp only [newFunctionEnv, Option.isSome_some, if_true]
  refine wpAny_bind (wpAny_alloc ?_)
  refine wpAny_bind (wpAny_layCells _ (fun name kind cells => by cases hkc : kind == NameKind.cell <;> simp [hkc]) _ _ _ _ ?_)
  dsimp only
  rw [hcell, hpush]
  simp only [List.forIn_nil]
  refine wpAny_bind (wpAny_pure (wpAny_pure ?_))
  generalize hH2 : h2.push { cls := .type "list", dict := none, data := .seq ([] : List Value).toArray } = H2
  have hC : H2.objs.size = h2.objs.size + 1 := by rw [← hH2, Heap.size_push]
  generalize hH3 : H2.push { cls := .type "dict", data := .dict #[] } = H3
  have hK : H3.objs.size = h2.objs.size + 2 := by rw [← hH3, Heap.size_push, hC]
  have up3 : ∀ b o, H2.get? b = some o → (H3.push { cls := .type "cell", data := .cell none }).get? b = some o := fun b o e => Heap.get?_push_of_some _ (hH3 ▸ Heap.get?_push_of_some _ e)
  have hns : H3.Ns H2.objs.size (fun _ => none) := hH3 ▸ Heap.Ns.new H2 (.type "dict")
  refine run h2.objs.size H2.objs.size H3.objs.size _ _ (RR (.ref h2.objs.size) H2.objs.size) (Nat.le_refl _) (by rw [hC]; exact Nat.le_succ _) (by rw [hK]; exact Nat.le_add_right _ _) (by rw [hC]; exact Nat.ne_of_lt (Nat.lt_succ_self _)) (by rw [hK]; omega) (by rw [hC, hK]; omega)
    (fun b o e => up3 _ _ (hH2 ▸ Heap.get?_push_of_some _ e)) (up3 _ _ (hH2 ▸ Heap.get?_push_size _ rfl)) (hns.at' fun o e => Heap.get?_push_of_some _ e) (Heap.get?_push_size _ rfl) ?_
  intro h tk m' vs iz hD hn K
  exact fin _ _ h tk m' vs (Nat.le_refl _) (by rw [hC]; exact Nat.le_succ _) (by rw [hC]; exact Nat.ne_of_lt (Nat.lt_succ_self _)) iz hD hn K

theorem comp_assignK {kx y : Str} {py spos : Pos} {Q : Flow → Shared → Prop} (F : Fr h₀ L s.heap m) (N : News h₀ L s.heap news) (hLe : env.locals = L)
    (hsw : swapsWith (.ListComp elt (⟨t0, i0, ifs, 0⟩ :: gs) scope pos) (some (.Name y py)) spos.line env = pure true)
    (hclos : closureFor scope env = pure cl) (hcell : ∀ n, cellsFrom n scope.names cl = (kx, n) :: cl) (hpush : ∀ h, pushCells h scope.names = h.push { cls := .type "cell", data := .cell none }) (hkind : scope.kind = .function)
    (hnames : ∀ z ∈ scope.names, z.2 = .local → scope.names.lookup z.1 = some .local)
    (hy : env.kindOf y = some .local) (hp : (env.scope.kind == .class || (env.scope.kind == .module && env.locals != env.globals)) = false)
    (hs : ∀ x, foldedSetIterable i0 env x = pure x)
    (run : CompRunK prog w A E s env elt ⟨t0, i0, ifs, 0⟩ gs scope kx cl pos zs)
    (fin : ∀ D h tk vs, Fr h₀ L h (fun z => if z = y then some (.ref D) else m z) → News h₀ L h ((D, lst vs) :: news) → (∀ p ∈ news, p.1 < D) → IntsAre vs zs → Q .next { s with heap := h, toks := tk }) :
    wpAny (model prog w) A (exec (.Assign [.Name y py] (.ListComp elt (⟨t0, i0, ifs, 0⟩ :: gs) scope pos) spos) env) Q E s := by
  subst hLe
  rw [exec_Assign_Name_used _ _ _ _ hsw]
  refine wpAny_bind (wpAny_standAt (wpAny_bind ?_))
  show wpAny _ A (do let _ ← comprehension (.ListComp elt (⟨t0, i0, ifs, 0⟩ :: gs) scope pos) scope env _ (newList []) false (eval i0 env) (some (assign (.Name y py) env))) _ _ s
  refine wpAny_bind (wpAny_mono (wpAny_comprehension_free (use := some (assign (.Name y py) env)) (Q := fun _ s' => Q .next s') rfl hs hclos hkind hnames
    (wpAny_mono run (fun xv s₁ h₁ => wpAny_mono h₁ (fun it s₂ h₂ => ?_) fun _ _ e => e) fun _ _ e => e)) (fun _ s' hq => wpAny_pure (wpAny_pure hq)) fun _ _ e => e)
  obtain ⟨h2, tk2, e2, k2, run'⟩ := h₂
  refine comp_blockK e2 hcell hpush hkind run' ?_
  intro D C h tk m' vs hD hC hDC iz hDh hn K
  have nD := none_ge k2 hD
  have nC := none_ge k2 hC
  have gD : h₀.get? D = none := none_base F.keep nD
  have gC : h₀.get? C = none := none_base F.keep nC
  have hLlt : env.locals < h2.objs.size := by
    obtain ⟨oL, es, ep, q, _⟩ := F.ns
    exact Heap.lt_size (k2 _ _ q)
  have hLD : env.locals ≠ D := Nat.ne_of_lt (Nat.lt_of_lt_of_le hLlt hD)
  have hLC : env.locals ≠ C := Nat.ne_of_lt (Nat.lt_of_lt_of_le hLlt hC)
  show wpAny _ A (assign (.Name y py) env (.ref D)) _ _ _
  refine wpAny_assign_Name (wpAny_storeName_local hy (F.ns.at' fun o e => K _ o e) (fun h₃ hn₃ hs₃ => ?_) hp)
  have hL₀ : h₀.get? env.locals = none := Heap.get?_none_of_le F.above
  have F₃ : Fr h₀ env.locals h₃ (fun z => if z = y then some (.ref D) else m z) := ⟨hn₃, fun b o e => hs₃.extBut b o (fun q => by rw [q, hL₀] at e; cases e) (K _ _ (F.keep b o e)), F.above⟩
  refine ⟨m', hn.sameBut hs₃ (Ne.symm hLC), fun h'' hs'' => fin D h'' _ vs (F₃.change hs'' (Ne.symm hLC) gC) (fun p hp => ?_) (fun p hp => ?_) iz⟩
  · rcases List.mem_cons.mp hp with rfl | hp
    · exact ⟨hs''.extBut _ _ hDC (hs₃.extBut _ _ (Ne.symm hLD) hDh), Ne.symm hLD, gD⟩
    · have z := N p hp
      exact ⟨hs''.extBut _ _ (fun q => by rw [q, nC] at z; exact absurd z.1 (by simp)) (hs₃.extBut _ _ z.2.1 (K _ _ z.1)), z.2⟩
  · exact Nat.lt_of_lt_of_le (Heap.lt_size (k2 _ _ (N p hp).1)) hD

theorem comp_exprK {kx : Str} {Q : Value → Shared → Prop} (F : Fr h₀ L s.heap m) (N : News h₀ L s.heap news)
    (hclos : closureFor scope env = pure cl) (hcell : ∀ n, cellsFrom n scope.names cl = (kx, n) :: cl) (hpush : ∀ h, pushCells h scope.names = h.push { cls := .type "cell", data := .cell none }) (hkind : scope.kind = .function)
    (hnames : ∀ z ∈ scope.names, z.2 = .local → scope.names.lookup z.1 = some .local)
    (hs : ∀ x, foldedSetIterable i0 env x = pure x)
    (run : CompRunK prog w A E s env elt ⟨t0, i0, ifs, 0⟩ gs scope kx cl pos zs)
    (fin : ∀ D h tk vs, Fr h₀ L h m → News h₀ L h ((D, lst vs) :: news) → (∀ p ∈ news, p.1 < D) → s.heap.get? D = none → IntsAre vs zs → (∀ b o, s.heap.get? b = some o → h.get? b = some o) → Q (.ref D) { s with heap := h, toks := tk }) :
    wpAny (model prog w) A (eval (.ListComp elt (⟨t0, i0, ifs, 0⟩ :: gs) scope pos) env) Q E s := by
  rw [eval_ListComp]
  refine wpAny_comprehension_free (use := none) rfl hs hclos hkind hnames (wpAny_mono run (fun xv s₁ h₁ => wpAny_mono h₁ (fun it s₂ h₂ => ?_) fun _ _ e => e) fun _ _ e => e)
  obtain ⟨h2, tk2, e2, k2, run'⟩ := h₂
  refine comp_blockK e2 hcell hpush hkind run' ?_
  intro D C h tk m' vs hD hC hDC iz hDh hn K
  have nD := none_ge k2 hD
  have nC := none_ge k2 hC
  have gD : h₀.get? D = none := none_base F.keep nD
  have gC : h₀.get? C = none := none_base F.keep nC
  have hLlt : L < h2.objs.size := by
    obtain ⟨oL, es, ep, q, _⟩ := F.ns
    exact Heap.lt_size (k2 _ _ q)
  have hLD : L ≠ D := Nat.ne_of_lt (Nat.lt_of_lt_of_le hLlt hD)
  have hLC : L ≠ C := Nat.ne_of_lt (Nat.lt_of_lt_of_le hLlt hC)
  refine ⟨m', hn, fun h'' hs'' => fin D h'' _ vs ((F.keeps K).change hs'' (Ne.symm hLC) gC) (fun p hp => ?_) (fun p hp => ?_) nD iz fun b o e => hs''.extBut b o (fun q => by have q' : b = C := q; rw [q', nC] at e; cases e) (K b o e)⟩
  · rcases List.mem_cons.mp hp with rfl | hp
    · exact ⟨hs''.extBut _ _ hDC hDh, Ne.symm hLD, gD⟩
    · have z := N p hp
      exact ⟨hs''.extBut _ _ (fun q => by rw [q, nC] at z; exact absurd z.1 (by simp)) (K _ _ z.1), z.2⟩
  · exact Nat.lt_of_lt_of_le (Heap.lt_size (k2 _ _ (N p hp).1)) hD

-- a test
def TestPost (s : Shared) (h : Heap) (b : Bool) (ok : Bool) (s' : Shared) : Prop :=
  ok = b ∧ ∃ h' tk', s' = { s with heap := h', toks := tk' } ∧ ∀ b o, h.get? b = some o → h'.get? b = some o
theorem testp {h h' : Heap} {b ok : Bool} {tk' : Nat} (e : ok = b) (k : GSub h h' []) : TestPost s h b ok { s with heap := h', toks := tk' } := ⟨e, h', tk', rfl, kept_keep k⟩

theorem take_filter_yes {ns : List Int} {i : Nat} {q : Int → Bool} (hi : i < ns.length) (hq : q (ns.getD i 0) = true) : (ns.take (i + 1)).filter q = (ns.take i).filter q ++ [ns.getD i 0] := by
  have e : ns.getD i 0 = ns[i] := by rw [List.getD_eq_getElem?_getD, List.getElem?_eq_getElem hi]; rfl
  rw [e] at hq ⊢
  rw [List.take_succ_eq_append_getElem hi, List.filter_append]
  simp [hq]
theorem take_filter_no {ns : List Int} {i : Nat} {q : Int → Bool} (hi : i < ns.length) (hq : q (ns.getD i 0) = false) : (ns.take (i + 1)).filter q = (ns.take i).filter q := by
  have e : ns.getD i 0 = ns[i] := by rw [List.getD_eq_getElem?_getD, List.getElem?_eq_getElem hi]; rfl
  rw [e] at hq
  rw [List.take_succ_eq_append_getElem hi, List.filter_append]
  simp [hq]

theorem tail_filter {l : Addr} {vs : List Value} {ns : List Int} {x : Str} {px px' : Pos} {ct : Expr} {h9 : Heap} {tk9 : Nat} (q : Int → Bool) (hl : h9.IsList l vs.toArray) (hi : IntsAre vs ns) (hn : ns.length ≤ 1000) (hh : A.handled = none) (F : Fr h₀ L s.heap m) (N : News h₀ L s.heap news)
    (hx : ∀ C, (compEnvC scope cl C env).kindOf x = some .local) (hk : scope.kind = .function) (hdb : (x == ("__debug__" : Str)) = false)
    (hk9 : ∀ b o, s.heap.get? b = some o → h9.get? b = some o)
    (turn : ∀ z h tk C D oC m₃ u ysv (E' : Value → Shared → Prop), z ∈ ns → LCg.NsObj oC m₃ → m₃ x = some (.int z u) → Fr h₀ L h m → News h₀ L h ((C, oC) :: (D, lst ysv) :: news) → (∀ b o, s.heap.get? b = some o → h.get? b = some o) →
      wpAny (model prog w) A (isTrue ct (compEnvC scope cl C env) (eval ct (compEnvC scope cl C env))) (TestPost s h (q z)) E' { s with heap := h, toks := tk }) :
    wpAny (model prog w) A (pyIter (.ref l)) (CompTailG prog w A s env (.Name x px') ⟨.Name x px, i0, [ct], 0⟩ [] scope cl pos (ns.filter q)) E { s with heap := h9, toks := tk9 } := by
  have hlt : l < h9.objs.size := by obtain ⟨o, e, _⟩ := hl; exact Heap.lt_size e
  refine wpAny_pyIter_list hl ?_
  have hsz : vs.toArray.size = ns.length := by rw [List.size_toArray, hi.length]
  have W := Walks.list (prog := prog) (w := w) hh h9.objs.size l (Nat.ne_of_lt hlt) vs.toArray
  rw [hsz] at W
  have up : ∀ b o, h9.get? b = some o → (h9.push { cls := .type "list_iterator", data := .fields #[.ref l, .int 0 0] }).get? b = some o := fun b o e => Heap.get?_push_of_some _ e
  refine ⟨_, _, rfl, fun b o e => up b o (hk9 b o e), ?_⟩
  intro D C h₁ tk₁ R hD hC hDC k₁ hDh hn₁ fin
  rw [Heap.size_push] at hD hC
  generalize hI : h9.objs.size = I at *
  have hDI : D ≠ I := Nat.ne_of_gt hD
  have hCI : C ≠ I := Nat.ne_of_gt hC
  have hDl : D ≠ l := Nat.ne_of_gt (Nat.lt_trans hlt hD)
  have hCl : C ≠ l := Nat.ne_of_gt (Nat.lt_trans hlt hC)
  have nI : s.heap.get? I = none := none_ge hk9 (Nat.le_of_eq hI)
  have nD : s.heap.get? D = none := none_ge hk9 (Nat.le_trans (Nat.le_of_eq hI) (Nat.le_of_succ_le hD))
  have nC : s.heap.get? C = none := none_ge hk9 (Nat.le_trans (Nat.le_of_eq hI) (Nat.le_of_succ_le hC))
  have st₁ := W.frame 0 _ h₁ ⟨⟨_, hI ▸ Heap.get?_push_size h9 rfl, rfl, rfl⟩, hl.at fun o e => up _ o e⟩ fun b hb o e => k₁ b o e
  have old₁ : ∀ b o, s.heap.get? b = some o → h₁.get? b = some o := fun b o e => k₁ b o (up b o (hk9 b o e))
  have loop : codeAny (model prog w) A (.compLoop (.ListComp (.Name x px') [⟨.Name x px, i0, [ct], 0⟩] scope pos) 0 (.ref I) (.ref D) (compEnvC scope cl C env)) R { s with heap := h₁, toks := tk₁ } := by
    refine codeAny_compLoop_tests (fun k s' => ∃ h' tk i m₂ zs, s' = { s with heap := h', toks := tk } ∧ i ≤ ns.length ∧ k = ns.length + 1 - i ∧ IntsAre zs ((ns.take i).filter q) ∧ (h'.IsListIter I l i ∧ h'.IsList l vs.toArray) ∧ (∀ b o, s.heap.get? b = some o → h'.get? b = some o) ∧ h'.get? D = some (lst zs) ∧ h'.Ns C m₂) ?_ (ns.length + 1)
      ⟨h₁, tk₁, 0, _, [], rfl, Nat.zero_le _, rfl, .nil, st₁, old₁, hDh, hn₁⟩
    rintro k s' ⟨h', tk, i, m₂, zs, rfl, hin, rfl, iz, st, K, hD', hC'⟩
    by_cases hlt : i < ns.length
    · refine W.item i _ _ _ hlt st fun v h₂ tk₂ hP st₂ hk₂ => ?_
      obtain ⟨u, rfl, _⟩ := pt_list hi hP
      have K₂ : ∀ b o, s.heap.get? b = some o → h₂.get? b = some o := fun b o e => hk₂ b o (fun q => by rw [List.mem_singleton.mp q, nI] at e; cases e) (K b o e)
      have hD₂ := hk₂ _ _ (fun q => hDI (List.mem_singleton.mp q)) hD'
      refine wpAny_assign_Name (wpAny_storeName_local (hx C) (hC'.at' fun o e => hk₂ _ o (fun q => hCI (List.mem_singleton.mp q)) e) (fun h₃ hn₃ hs₃ => ?_) (by rw [show (compEnvC scope cl C env).scope.kind = .function from hk]; rfl))
      have K₃ : ∀ b o, s.heap.get? b = some o → h₃.get? b = some o := fun b o e => hs₃.extBut b o (fun q => by have q' : b = C := q; rw [q', nC] at e; cases e) (K₂ b o e)
      have hD₃ : h₃.get? D = some (lst zs) := hs₃.extBut _ _ hDC hD₂
      obtain ⟨oC, hCv, hO⟩ := ns_split hn₃
      have hmem : ns.getD i 0 ∈ ns := by
        rw [List.getD_eq_getElem?_getD, List.getElem?_eq_getElem hlt]
        exact List.getElem_mem hlt
      have st₃ := W.frame (i + 1) _ h₃ st₂ fun b hb o e => hs₃.extBut b o (fun q => by
        have q' : b = C := q
        rw [q'] at hb
        rcases List.mem_cons.mp hb with q | q
        · exact hCI q
        · exact hCl (List.mem_singleton.mp q)) e
      have T := turn (ns.getD i 0) h₃ (tk₂ + 1) C D oC _ u zs (notedBy (model prog w) A (compEnvC scope cl C env) fun e s' => R (.error e) s') hmem hO (by simp) (F.keeps K₃) (comp_news F N K₃ nD nC hCv hD₃) K₃
      refine wpAny_tests_one (wpAny_mono T (fun ok s₃ h₃' => ?_) fun _ _ x => x)
      obtain ⟨rfl, h₄, tk₄, rfl, k₄⟩ := h₃'
      have st₄ := W.frame (i + 1) _ h₄ st₃ fun b hb o e => k₄ b o e
      cases hq : q (ns.getD i 0) with
      | true =>
        simp only [if_true]
        have n₄ := hn₃.at' fun o e => k₄ _ o e
        refine wpAny_Name (wpAny_loadName_local (v := .int (ns.getD i 0) u) hk (hx C) n₄ (by simp) ?_) hdb
        have hzl : zs.length ≤ 1000 := by
          rw [iz.length]
          refine Nat.le_trans (List.length_filter_le ..) (Nat.le_trans ?_ hn)
          rw [List.length_take]; omega
        refine append_at (hsz := by rw [List.size_toArray]; exact Nat.le_trans hzl (by decide)) (k₄ _ _ hD₃) fun h₅ hs₅ hD₅ => ?_
        refine ⟨ns.length + 1 - (i + 1), by omega, h₅, tk₄, i + 1, _, zs ++ [.int (ns.getD i 0) u], rfl, hlt, rfl, ?_, ?_, ?_, ?_, n₄.sameBut hs₅ (Ne.symm hDC)⟩
        · rw [take_filter_yes hlt hq]
          exact IntsAre.append iz (.cons _ _ .nil)
        · exact W.frame (i + 1) _ h₅ st₄ fun b hb o e => hs₅.extBut b o (fun q => by
            rw [q] at hb
            rcases List.mem_cons.mp hb with q | q
            · exact hDI q
            · exact hDl (List.mem_singleton.mp q)) e
        · exact fun b o e => hs₅.extBut b o (fun q => by rw [q, nD] at e; cases e) (k₄ _ _ (K₃ b o e))
        · rw [hD₅]; exact congrArg some (LCg.lst_snoc _ _)
      | false =>
        simp only [Bool.false_eq_true, if_false]
        refine ⟨ns.length + 1 - (i + 1), by omega, h₄, tk₄, i + 1, _, zs, rfl, hlt, rfl, ?_, st₄, fun b o e => k₄ _ _ (K₃ b o e), k₄ _ _ hD₃, hn₃.at' fun o e => k₄ _ o e⟩
        rw [take_filter_no hlt hq]
        exact iz
    · obtain rfl : i = ns.length := Nat.le_antisymm hin (Nat.not_lt.mp hlt)
      refine W.done _ _ _ st fun h₂ tk₂ hk₂ => ?_
      rw [List.take_length] at iz
      exact fin h₂ tk₂ m₂ zs iz (hk₂ _ _ (fun q => hDI (List.mem_singleton.mp q)) hD') (hC'.at' fun o e => hk₂ _ o (fun q => hCI (List.mem_singleton.mp q)) e) fun b o e => hk₂ b o (fun q => by rw [List.mem_singleton.mp q, nI] at e; cases e) (K b o e)
  exact codeAny_compStart_list loop (W.self 0 _ _ _ st₁ loop)
end
end Mine
end
-- B15
section
open PySem PySem.W PyProof.Rows PySem.Spec PySem.Calls
set_option maxRecDepth 100000
set_option maxHeartbeats 8000000
set_option linter.unusedVariables false
namespace Mine
theorem src_cell {prog : Program} {w : World} {A : Around} {cenv : Env} {C I K : Addr} {x : Str} {px : Pos} (a : Int) (n : Nat) (hh : A.handled = none) (hC : cenv.locals = C) (hCI : C ≠ I) (hCK : C ≠ K) (hIK : I ≠ K)
    (hx : cenv.kindOf x = some .cell) (hk : cenv.scope.kind = .function) (hcl : cenv.cells.lookup x = some K) :
    Src prog w A cenv C (.Name x px) I [I, K] [I, K] n (fun i m₁ m₂ => m₂ = m₁)
      (fun i h => IsRangeIter h I (a + (i : Nat) * 1) ((n : Int) - (i : Nat)) 1 ∧ ∃ oK u, h.get? K = some oK ∧ oK.data = .cell u ∧ ∀ j : Nat, i = j + 1 → ∃ t, u = some (.int (a + (j : Int)) t)) where
  frame := fun i h h' st k => ⟨k I (by simp) _ st.1, by
    obtain ⟨oK, u, e, d, f⟩ := st.2
    exact ⟨oK, u, k K (by simp) _ e, d, f⟩⟩
  turn := fun i s m₁ Q E hi st hn hQ => by
    subst hC
    have W := Walks.range (prog := prog) (w := w) hh I a 1 n
    obtain ⟨st1, oK, u, eK, dK, _⟩ := st
    refine W.item i s _ E hi st1 fun v h' tk hP st' hk' => ⟨v, rfl, ?_⟩
    obtain ⟨t, rfl⟩ := hP
    refine wpAny_of_eq (show letOwnedTupleGo (.Name x px) (.ref I) _ = pure () from rfl) ?_
    refine wpAny_assign_Name (wpAny_storeName_cell hk hx hcl ⟨oK, hk' _ _ (fun q => hIK (List.mem_singleton.mp q).symm) eK, dK⟩ fun h₂ hv hs₂ => ?_)
    obtain ⟨oK', eK', dK'⟩ := hv
    have e1 : a + (i : Int) * 1 = a + (i : Int) := by omega
    rw [e1] at dK'
    refine hQ h₂ _ _ rfl ⟨hs₂.extBut _ _ hIK st', oK', _, eK', dK', fun j e => ?_⟩ ((hn.at' fun o e => hk' _ o (fun q => hCI (List.mem_singleton.mp q)) e).sameBut hs₂ hCK) fun b o h1 h2 e => ?_
    · obtain rfl : i = j := Nat.succ.inj e
      exact ⟨t, rfl⟩
    · exact hs₂.extBut b o (fun q => h1 (by rw [q]; simp)) (hk' b o (fun q => h1 (by rw [List.mem_singleton.mp q]; simp)) e)
  done := fun s Q E st hQ => (Walks.range (prog := prog) (w := w) hh I a 1 n).done s Q E st.1 fun h' tk hk' => hQ h' tk fun b o h1 e => hk' b o (fun q => h1 (by rw [List.mem_singleton.mp q]; simp)) e
  self := fun i s Q E st hQ => (Walks.range (prog := prog) (w := w) hh I a 1 n).self i s Q E st.1 hQ

section
variable {prog : Program} {w : World} {A : Around} {E : Value → Shared → Prop} {s : Shared} {h₀ : Heap} {L : Addr} {m : Str → Option Value} {env : Env} {news : List (Addr × Obj)}
  {elt i0 : Expr} {scope : Scope} {cl : List (Str × Addr)} {pos : Pos} {zs : List Int}

theorem tail_range_cell {r : Addr} {a b : Int} {t u v : Tok} {n : Nat} {x : Str} {px : Pos} {h9 : Heap} {tk9 : Nat} (f : Nat → Int) (hh : A.handled = none) (hr : IsRange h9 r a b 1 t u v) (hsm : Builtin.Range.small a b 1 = true) (hn : Builtin.Range.rangeSize a b 1 = (n : Int)) (hn5 : n ≤ 1000) (F : Fr h₀ L s.heap m) (N : News h₀ L s.heap news)
    (hx : ∀ C K, (compEnvC scope ((x, K) :: cl) C env).kindOf x = some .cell) (hk : scope.kind = .function)
    (hk9 : ∀ b o, s.heap.get? b = some o → h9.get? b = some o)
    (turn : ∀ (i : Nat) h tk C D K oC oK m₃ ysv t (E' : Value → Shared → Prop), i < n → LCg.NsObj oC m₃ → oK.data = .cell (some (.int (a + (i : Int)) t)) → Fr h₀ L h m → News h₀ L h ((C, oC) :: (K, oK) :: (D, lst ysv) :: news) → (∀ b o, s.heap.get? b = some o → h.get? b = some o) →
      wpAny (model prog w) A (eval elt (compEnvC scope ((x, K) :: cl) C env)) (ElPost s h (f i)) E' { s with heap := h, toks := tk }) :
    wpAny (model prog w) A (pyIter (.ref r)) (CompTailK prog w A s env elt ⟨.Name x px, i0, [], 0⟩ [] scope x cl pos ((List.range n).map f)) E { s with heap := h9, toks := tk9 } := by
  refine wpAny_pyIter_range hr hsm ?_
  have up : ∀ c o, h9.get? c = some o → (h9.push { cls := .type "range_iterator", data := .fields #[rawInt a, rawInt (Builtin.Range.rangeSize a b 1), rawInt 1] }).get? c = some o := fun c o e => Heap.get?_push_of_some _ e
  refine ⟨_, _, rfl, fun b o e => up b o (hk9 b o e), ?_⟩
  intro D C K h₁ tk₁ R hD hC hK hDC hDK hCK k₁ hDh hn₁ hKv fin
  rw [Heap.size_push] at hD hC hK
  generalize hI : h9.objs.size = I at *
  have hDI : D ≠ I := Nat.ne_of_gt hD
  have hCI : C ≠ I := Nat.ne_of_gt hC
  have hKI : K ≠ I := Nat.ne_of_gt hK
  have nI : s.heap.get? I = none := none_ge hk9 (Nat.le_of_eq hI)
  have nD : s.heap.get? D = none := none_ge hk9 (Nat.le_trans (Nat.le_of_eq hI) (Nat.le_of_succ_le hD))
  have nC : s.heap.get? C = none := none_ge hk9 (Nat.le_trans (Nat.le_of_eq hI) (Nat.le_of_succ_le hC))
  have nK : s.heap.get? K = none := none_ge hk9 (Nat.le_trans (Nat.le_of_eq hI) (Nat.le_of_succ_le hK))
  have S := src_cell (prog := prog) (w := w) (A := A) (cenv := compEnvC scope ((x, K) :: cl) C env) (px := px) a n hh rfl hCI hCK (Ne.symm hKI) (hx C K) hk (by show List.lookup x ((x, K) :: cl) = some K; rw [List.lookup_cons]; simp)
  have old₁ : ∀ b o, s.heap.get? b = some o → h₁.get? b = some o := fun b o e => k₁ b o (up b o (hk9 b o e))
  have kw : ∀ h, Kp [I, K] C D h₁ h → ∀ b o, s.heap.get? b = some o → h.get? b = some o := fun h k b o e =>
    k b o (fun q => by
      rcases List.mem_cons.mp q with q | q
      · rw [q, nI] at e; cases e
      · rw [List.mem_singleton.mp q, nK] at e; cases e) (fun q => by rw [q, nC] at e; cases e) (fun q => by rw [q, nD] at e; cases e) (old₁ b o e)
  have st₀ : IsRangeIter h₁ I (a + ((0 : Nat) : Int) * 1) ((n : Int) - ((0 : Nat) : Int)) 1 := k₁ _ _ (by
    have := Heap.get?_push_size h9 (o := { cls := .type "range_iterator", data := .fields #[rawInt a, rawInt (Builtin.Range.rangeSize a b 1), rawInt 1] }) rfl
    rw [hI, hn] at this
    simpa [hn] using this)
  have st₁ : IsRangeIter h₁ I (a + ((0 : Nat) : Int) * 1) ((n : Int) - ((0 : Nat) : Int)) 1 ∧ ∃ oK u, h₁.get? K = some oK ∧ oK.data = .cell u ∧ ∀ j : Nat, 0 = j + 1 → ∃ t, u = some (.int (a + (j : Int)) t) :=
    ⟨st₀, _, none, hKv, rfl, fun j e => by cases e⟩
  have loop : codeAny (model prog w) A (.compLoop (.ListComp elt [⟨.Name x px, i0, [], 0⟩] scope pos) 0 (.ref I) (.ref D) (compEnvC scope ((x, K) :: cl) C env)) R { s with heap := h₁, toks := tk₁ } := by
    refine emit_loopS (s := { s with heap := h₁, toks := tk₁ }) (ys := []) f S (by rfl) ?_ (fun _ hb => hb) hDC ?_ st₁ hDh hn₁ (by simpa using hn5) (fun _ => True) trivial (fun _ _ _ _ _ => trivial) ?_ ?_
    · intro q
      rcases List.mem_cons.mp q with q | q
      · exact hDI q
      · exact hDK (List.mem_singleton.mp q)
    · intro q
      rcases List.mem_cons.mp q with q | q
      · exact hCI q
      · exact hCK (List.mem_singleton.mp q)
    · intro i h tk m₂ m₃ ysv E' hi _ hB st Kk hDv hnv
      obtain ⟨oC, hCv, hO⟩ := ns_split hnv
      have kk := kw h Kk
      obtain ⟨_, oK, uK, eK, dK, fK⟩ := st
      obtain ⟨t', rfl⟩ := fK i rfl
      refine turn i h tk C D K oC oK _ ysv t' E' hi hO dK (F.keeps kk) ?_ kk
      have z := comp_news F N kk nD nC hCv hDv
      intro p hp
      rcases List.mem_cons.mp hp with rfl | hp
      · exact z _ List.mem_cons_self
      rcases List.mem_cons.mp hp with rfl | hp
      · obtain ⟨oL, es, ep, q, _⟩ := F.ns
        exact ⟨eK, ne_none nK q, none_base F.keep nK⟩
      · exact z p (List.mem_cons_of_mem _ hp)
    · intro h tk m₂ vs iz Kk hDv hnv _
      rw [List.nil_append] at hDv
      exact fin h tk m₂ vs iz hDv hnv (kw h Kk)
  exact codeAny_compStart_list loop (S.self 0 _ _ _ st₁ loop)
end
end Mine
end
-- B16
section
open PySem PySem.W PyProof.Rows PySem.Spec PySem.Calls
set_option maxRecDepth 100000
set_option maxHeartbeats 8000000
set_option linter.unusedVariables false
namespace Mine
def GrowES (D K : Addr) (led : List (Addr × Obj)) (xi xc y : Str) (m₀ : Str → Option Value) (zs : List Int) (m : Str → Option Value) (nx : List (Addr × Obj)) : Prop :=
  ∃ ws c oK u, nx = (D, listOf (List.toArray ws) c) :: (K, oK) :: led ∧ IntsAre ws zs ∧ oK.data = .cell u ∧ ∀ z, z ≠ xi → z ≠ xc → z ≠ y → m z = m₀ z

section
variable {prog : Program} {w : World} {A : Around} {E : Value → Shared → Prop} {s : Shared} {env : Env} {h₀ : Heap} {xi xc y : Str} {body : List Stmt} {Q : Flow → Shared → Prop}

theorem enum_grow {l D K : Addr} {vs : List Value} {ns : List Int} {c₀ : Nat} {m₀ : Str → Option Value} {led : List (Addr × Obj)} {ws₀ : List Value} {oK₀ : Obj} {uK₀ : Option Value} {h9 : Heap} {tk9 : Nat} (P : Nat → List Int) (y : Str)
    (hl : h₀.IsList l vs.toArray) (hi : IntsAre vs ns) (hh : A.handled = none) (F : Fr h₀ env.locals s.heap m₀)
    (N : News h₀ env.locals s.heap ((D, listOf (List.toArray ws₀) c₀) :: (K, oK₀) :: led)) (hKD : K ≠ D) (hneD : ∀ p ∈ led, p.1 ≠ D) (hneK : ∀ p ∈ led, p.1 ≠ K) (hK₀ : oK₀.data = .cell uK₀) (h0 : IntsAre ws₀ (P 0))
    (he9 : IsEnum h9 (s.heap.objs.size + 1) s.heap.objs.size 0 .none) (hit9 : h9.IsListIter s.heap.objs.size l 0) (hk9 : ∀ b o, s.heap.get? b = some o → h9.get? b = some o)
    (turn : ∀ (i : Nat) t t' h tk own ws c oK uK u, i < ns.length → (∀ p ∈ led ++ own, p.1 ≠ D) → (∀ p ∈ led ++ own, p.1 ≠ K) → K ≠ D → IntsAre ws (P i) → oK.data = .cell uK → Fr h₀ env.locals h (fun z => if z = xc then some (.int (ns.getD i 0) t') else if z = xi then some (.int (i : Int) t) else if z = y then u else m₀ z) → News h₀ env.locals h ((D, listOf (List.toArray ws) c) :: (K, oK) :: (led ++ own)) →
      wpAny (model prog w) A (execs body env) (InvPostN h₀ env.locals (GrowES D K led xi xc y m₀ (P (i + 1))) own (D :: K :: led.map (·.1)) { s with heap := h, toks := tk } Q) E { s with heap := h, toks := tk })
    (done : ∀ (u : Str → Option Value) h tk ws c oK uK, IntsAre ws (P ns.length) → oK.data = .cell uK → Fr h₀ env.locals h (fun z => if z = xc then u z else if z = xi then u z else if z = y then u z else m₀ z) → News h₀ env.locals h ((D, listOf (List.toArray ws) c) :: (K, oK) :: led) → Q .next { s with heap := h, toks := tk }) :
    wpAny (model prog w) A (pyIter (.ref (s.heap.objs.size + 1))) (fun it s₂ => PairAt3 prog w A h₀ env xi xc body Q E it s₂) E { s with heap := h9, toks := tk9 } := by
  obtain ⟨ol, hol, _⟩ := id hl
  have hls : s.heap.IsList l vs.toArray := hl.at fun o e => F.keep l o e
  have hlt : l < s.heap.objs.size := by obtain ⟨o, e, _⟩ := hls; exact Heap.lt_size e
  refine wpAny_pyIter_enum he9 ?_
  have hsz : vs.toArray.size = ns.length := by rw [List.size_toArray, hi.length]
  have W := WalksT.enumerate (prog := prog) (w := w) hh (s.heap.objs.size + 1) s.heap.objs.size l (Nat.succ_ne_self _) (Nat.ne_of_lt (Nat.lt_succ_of_lt hlt)) (Nat.ne_of_lt hlt) vs.toArray
  rw [hsz] at W
  have nl : ∀ p ∈ (D, listOf (List.toArray ws₀) c₀) :: (K, oK₀) :: led, p.1 < s.heap.objs.size ∧ p.1 ≠ l := fun p hp => ⟨Heap.lt_size (N p hp).1, fun q => by
    have := (N p hp).2.2
    rw [q, hol] at this; cases this⟩
  have hadr : ∀ ws c oK, ((D, listOf (List.toArray ws) c) :: (K, oK) :: led).map (·.1) = D :: K :: led.map (·.1) := fun _ _ _ => rfl
  refine ⟨_, _, _, ns.length, _, _, _, fun i v0 v1 => i < ns.length ∧ ∃ t t', v0 = .int (i : Int) t ∧ v1 = .int (ns.getD i 0) t', m₀, (D, listOf (List.toArray ws₀) c₀) :: (K, oK₀) :: led, fun i m nx => GrowES D K led xi xc y m₀ (P i) m nx, rfl, W, ?_, ?_, ?_, ?_, ⟨⟨_, by simpa using he9⟩, hit9, hls.at fun o e => hk9 _ _ e⟩, F.keeps hk9, N.grown hk9, ⟨ws₀, c₀, oK₀, uK₀, rfl, h0, hK₀, fun _ _ _ _ => rfl⟩, ?_, ?_⟩
  · intro i vals hP
    obtain ⟨t, x, e, rfl⟩ := hP
    obtain ⟨t1, u1, e1, e2, hlt'⟩ := pt_enum hi ⟨t, x, e, rfl⟩
    exact ⟨_, _, rfl, hlt', t1, u1, e1, e2⟩
  · intro q
    have hL := F.ns.lt
    have ha := Nat.lt_of_lt_of_le (Heap.lt_size hol) F.above
    simp only [List.mem_cons, List.not_mem_nil, or_false] at q
    rcases q with q | q | q
    · rw [q] at hL; exact absurd hL (Nat.not_lt.mpr (Nat.le_succ _))
    · rw [q] at hL; exact absurd hL (Nat.lt_irrefl _)
    · rw [q] at ha; exact absurd ha (Nat.lt_irrefl _)
  · intro b hb
    simp only [List.mem_cons, List.not_mem_nil, or_false] at hb
    rcases hb with rfl | rfl
    · exact none_base F.keep (none_size (Nat.le_succ _))
    · exact none_base F.keep (none_size (Nat.le_refl _))
  · intro p hp q
    have := (nl p hp).1
    simp only [List.mem_cons, List.not_mem_nil, or_false] at q
    rcases q with q | q
    · rw [q] at this; exact absurd this (Nat.not_lt.mpr (Nat.le_succ _))
    · rw [q] at this; exact Nat.lt_irrefl _ this
  · rintro i v0 v1 m₁ news₁ s₁ own ⟨h, tk, rfl⟩ hin ⟨_, t, t', rfl, rfl⟩ ⟨ws, c, oK, uK, rfl, iz, hd, hm⟩ ha hown F₁ N₁
    have off : ∀ p ∈ own, ∀ q ∈ (D, listOf (List.toArray ws₀) c₀) :: (K, oK₀) :: led, p.1 ≠ q.1 := by
      intro p hp q hq e
      have h1 := nl q hq
      rw [← e] at h1
      have h2 := hown p hp
      simp only [List.mem_cons, List.not_mem_nil, or_false] at h2
      rcases h2 with h2 | h2 | h2
      · rw [h2] at h1; exact absurd h1.1 (Nat.not_lt.mpr (Nat.le_succ _))
      · rw [h2] at h1; exact absurd h1.1 (Nat.lt_irrefl _)
      · exact h1.2 h2
    have e : (fun z => if z = xc then some (Value.int (ns.getD i 0) t') else if z = xi then some (Value.int (i : Int) t) else m₁ z) = fun z => if z = xc then some (Value.int (ns.getD i 0) t') else if z = xi then some (Value.int (i : Int) t) else if z = y then m₁ y else m₀ z := by
      funext z
      by_cases h1 : z = xc
      · simp [h1]
      · simp only [if_neg h1]
        by_cases h2 : z = xi
        · simp [h2]
        · simp only [if_neg h2]
          by_cases h3 : z = y
          · simp [h3]
          · simp only [if_neg h3]; exact hm z h2 h1 h3
    rw [e] at F₁
    have N₂ : News h₀ env.locals h ((D, listOf (List.toArray ws) c) :: (K, oK) :: (led ++ own)) := by
      intro p hp
      refine N₁ p ?_
      rcases List.mem_cons.mp hp with rfl | hp
      · exact List.mem_append_right _ List.mem_cons_self
      rcases List.mem_cons.mp hp with rfl | hp
      · exact List.mem_append_right _ (List.mem_cons_of_mem _ List.mem_cons_self)
      rcases List.mem_append.mp hp with hp | hp
      · exact List.mem_append_right _ (List.mem_cons_of_mem _ (List.mem_cons_of_mem _ hp))
      · exact List.mem_append_left _ hp
    refine wpAny_mono (turn i t t' h tk own ws c oK uK (m₁ y) hin (fun p hp => (List.mem_append.mp hp).elim (hneD p) fun hp => off p hp _ List.mem_cons_self) (fun p hp => (List.mem_append.mp hp).elim (hneK p) fun hp => off p hp _ (List.mem_cons_of_mem _ List.mem_cons_self)) hKD iz hd F₁ N₂) (fun f s₃ h₃ => ?_) fun _ _ x => x
    have key : InvEndN h₀ env.locals (GrowES D K led xi xc y m₀ (P (i + 1))) own (D :: K :: led.map (·.1)) { s with heap := h, toks := tk } s₃ → LoopStep2 h₀ env.locals own ((D, listOf (List.toArray ws) c) :: (K, oK) :: led) (GrowES D K led xi xc y m₀ (P (i + 1))) { s with heap := h, toks := tk } .next s₃ := by
      rintro ⟨h', tk', m', news', nx, rfl, F', N', hnx, hown', hadr', hJ⟩
      exact ⟨rfl, h', tk', m', nx, rfl, F', fun p hp => (List.mem_append.mp hp).elim (fun h => N' p (hown' p h)) fun h => N' p (hnx p h), hadr', hJ⟩
    cases f with
    | ret v => exact h₃
    | brk => exact h₃
    | cont => exact key h₃
    | next => exact key h₃
  · rintro h' tk m' news' F' N' _ ⟨ws, c, oK, uK, rfl, iz, hd, hm⟩
    have e : (fun z => if z = xc then m' z else if z = xi then m' z else if z = y then m' z else m₀ z) = m' := by
      funext z
      by_cases h1 : z = xc
      · simp [h1]
      · simp only [if_neg h1]
        by_cases h2 : z = xi
        · simp [h2]
        · simp only [if_neg h2]
          by_cases h3 : z = y
          · simp [h3]
          · simp only [if_neg h3]; exact (hm z h2 h1 h3).symm
    exact done m' h' tk ws c oK uK iz hd (by rw [e]; exact F') N'
end
theorem growE_end {h₀ : Heap} {L D K : Addr} {m' m₀ : Str → Option Value} {xi xc y : Str} {led own news : List (Addr × Obj)} {ws : List Value} {c : Nat} {oK : Obj} {u : Option Value} {zs : List Int} {s₁ : Shared} {h' : Heap} {tk : Nat}
    (F : Fr h₀ L h' m') (N : News h₀ L h' news) (hD : (D, listOf (List.toArray ws) c) ∈ news) (sub : ∀ p ∈ ((K, oK) :: led) ++ own, p ∈ news) (iz : IntsAre ws zs) (hd : oK.data = .cell u) (hm : ∀ z, z ≠ xi → z ≠ xc → z ≠ y → m' z = m₀ z) :
    InvEndN h₀ L (GrowES D K led xi xc y m₀ zs) own (D :: K :: led.map (·.1)) s₁ { s₁ with heap := h', toks := tk } :=
  InvEndN.intro (nx := (D, listOf (List.toArray ws) c) :: (K, oK) :: led) F N ⟨ws, c, oK, u, rfl, iz, hd, hm⟩ rfl
    (fun p hp => (List.mem_cons.mp hp).elim (fun e => e ▸ hD) fun h => sub p (List.mem_append.mpr (.inl h)))
    fun p hp => sub p (List.mem_append.mpr (.inr hp))
end Mine
end
-- B17
section
open PySem PySem.W PyProof.Rows PySem.Spec PySem.Calls
set_option maxRecDepth 100000
set_option maxHeartbeats 8000000
set_option linter.unusedVariables false
namespace Mine
theorem setL_of : ∀ {l : List Value} {k : Nat} {v : Value}, k < l.length → ki_setL l k v = some (l.set k v)
  | [], _, _, h => absurd h (Nat.not_lt_zero _)
  | _ :: _, 0, _, _ => rfl
  | x :: l, k + 1, v, h => by
    have := setL_of (l := l) (k := k) (v := v) (Nat.lt_of_succ_lt_succ h)
    unfold ki_setL
    rw [this]; rfl
theorem ints_set {vs : List Value} {ns : List Int} (hi : IntsAre vs ns) (x : Int) (t : Tok) : ∀ k : Nat, IntsAre (vs.set k (.int x t)) (ns.set k x) := by
  induction hi with
  | nil => intro k; exact .nil
  | cons a u h ih =>
    intro k
    cases k with
    | zero => exact .cons x t h
    | succ k => exact .cons a u (ih k)
theorem grow_set {prog : Program} {w : World} {A : Around} {E : Value → Shared → Prop} {s : Shared} {h₀ : Heap} {L D : Addr} {m : Str → Option Value} {led own : List (Addr × Obj)} {ws : List Value} {c : Nat} {k : Int} {u : Tok} {v : Value} {Q : Unit → Shared → Prop}
    (F : Fr h₀ L s.heap m) (N : News h₀ L s.heap ((D, listOf (List.toArray ws) c) :: (led ++ own))) (G : GrowCx D led own) (h0 : 0 ≤ k) (h1 : k.toNat < ws.length) (hfit : k < 2 ^ 63)
    (h : ∀ h', Fr h₀ L h' m → News h₀ L h' ((D, listOf (List.toArray (ws.set k.toNat v)) c) :: (led ++ own)) → Q () { s with heap := h' }) :
    wpAny (model prog w) A (setItem (.ref D) (.int k u) v) Q E s :=
  ki_set F N h0 hfit (by rw [List.toList_toArray]; exact setL_of h1) (upd_of (pre := []) (fun p hp => nomatch hp) G) h
theorem place4 {i : Nat} : (0 + (i : Int) * 1).fmod 4 = ((i % 4 : Nat) : Int) := by
  rw [Int.fmod_eq_emod_of_nonneg _ (by decide)]; omega
theorem place4' {i : Nat} : ((0 + (i : Int) * 1).fmod 4).toNat = i % 4 := by
  rw [place4]; omega
end Mine
end
-- C7
section
theorem Mine.top_C7 : True := by
  w_top off
  trivial
open PySem PySem.W PyProof.Rows PySem.Spec PySem.Calls
set_option maxRecDepth 100000
set_option maxHeartbeats 8000000
set_option linter.unusedVariables false
namespace Mine
local macro_rules | `(tactic| walk_at "M.enterC") => `(tactic| (k_dflt (refine' enterC ?k1 ?k2 ?k3 ?k4 ?k5 ?kA ?kF ?kK ?k6 ?k7 ?k8 ?k9 ?kB ?kD ?_ ?c2 ?c3 ?c4; (case kA => exact rfl); (case kF => exact rfl); (case kK => assumption); (case k1 => k_asm); (case k2 => k_asm); (case k3 => k_asm); (case k4 => k_asm); (case k5 => k_asm); (case k6 => k_is); (case k7 => k_is); (case k8 => ktr_room); (case k9 => exact BindsTo.of_eq rfl); (case kB => exact rfl); (case kD => decide +kernel); (case c2 => exact rfl); (case c3 => exact rfl); (case c4 => exact rfl); k_whole; intro g' L' h' tk' cells' FG' F' N' Y' B' X' T' l1 GS'; (try k_lt l1); k_cells Y'; (try simp only [List.cons_append, List.nil_append] at N'); (try dsimp only); (try k_fold))))

abbrev hookV (ns : List Int) (i : Nat) (c : Int) : Int := ns.getD i 0 - c + (((ns.drop (i + 1)).filter fun o => decide (o > c)).length : Int)
abbrev rowJ (ns : List Int) (i j : Nat) : List Int := (List.range j).map fun (k : Nat) => hookV ns i (0 + (k : Int))
abbrev hooksP (ns : List Int) (i : Nat) : List Int := (List.range i).flatMap fun r => rowJ ns r (ns.getD r 0).toNat
theorem hook_in {ns : List Int} {i j : Nat} {ws : List Value} {v : Int} {t : Tok} (iz : IntsAre ws (hooksP ns i ++ rowJ ns i j)) (e : v = hookV ns i (0 + (j : Int))) : IntsAre (ws ++ [.int v t]) (hooksP ns i ++ rowJ ns i (j + 1)) := by
  subst e
  have h : rowJ ns i (j + 1) = rowJ ns i j ++ [hookV ns i (0 + (j : Int))] := by
    unfold rowJ
    rw [List.range_succ, List.map_append]; rfl
  rw [h, ← List.append_assoc]
  exact IntsAre.append iz (.cons _ _ .nil)
theorem hook_out {ns : List Int} {i n : Nat} {ws : List Value} (iz : IntsAre ws (hooksP ns i ++ rowJ ns i n)) (e : n = (ns.getD i 0).toNat) : IntsAre ws (hooksP ns (i + 1)) := by
  subst e
  have h : hooksP ns (i + 1) = hooksP ns i ++ rowJ ns i (ns.getD i 0).toNat := by
    unfold hooksP
    rw [List.range_succ, List.flatMap_append]; simp
  rw [h]; exact iz
theorem hook_zero {ns : List Int} {i : Nat} {ws : List Value} (iz : IntsAre ws (hooksP ns i)) : IntsAre ws (hooksP ns i ++ rowJ ns i 0) := by
  rw [show rowJ ns i 0 = [] from rfl, List.append_nil]; exact iz
theorem filt_len {ns : List Int} {i : Nat} {q : Int → Bool} (h : ns.length ≤ 6) : ((ns.drop i).filter q).length ≤ 1000 := by
  refine Nat.le_trans (List.length_filter_le ..) ?_
  rw [List.length_drop]; omega
theorem getD_bnd {ns : List Int} {i : Nat} (h : ∀ x ∈ ns, 0 ≤ x ∧ x ≤ 6) : 0 ≤ ns.getD i 0 ∧ ns.getD i 0 ≤ 6 := by
  by_cases hi : i < ns.length
  · rw [List.getD_eq_getElem?_getD, List.getElem?_eq_getElem hi]; exact h _ (List.getElem_mem hi)
  · rw [List.getD_eq_getElem?_getD, List.getElem?_eq_none (by omega)]; exact ⟨Int.le_refl 0, by decide⟩
theorem hooks_len {ns : List Int} (h : ∀ x ∈ ns, 0 ≤ x ∧ x ≤ 6) : ∀ i, (hooksP ns i).length ≤ 6 * i
  | 0 => by simp
  | i + 1 => by
    have e : hooksP ns (i + 1) = hooksP ns i ++ rowJ ns i (ns.getD i 0).toNat := by
      unfold hooksP
      rw [List.range_succ, List.flatMap_append]; simp
    have h1 := hooks_len h i
    have h2 := getD_bnd (i := i) h
    rw [e, List.length_append, List.length_map, List.length_range]
    omega
section
local macro_rules | `(tactic| walk_at "TestPost") => `(tactic| (k_dflt (refine testp (by rfl) ?_); first | exact kept_trans (by assumption) (by assumption) | assumption | exact kept_refl))
local macro_rules | `(tactic| walk_at "exec For") => `(tactic| k_extra "M.for")
local macro_rules | `(tactic| walk_at "pyIter ref") => `(tactic| k_extra "M.iter")
local macro_rules | `(tactic| walk_at "exec Assign cons ListComp") => `(tactic| k_extra "M.assign")
local macro_rules | `(tactic| walk_at "subscriptTail Name Slice ref ref") => `(tactic| ((with_reducible show wpAny _ _ (subscriptTail _ (PySem.Expr.Slice _ _ none _) (Value.ref _) (Value.ref _)) _ _ _); k_dflt (refine' slice_z ?F ?N ?l ?p ?q ?i ?m ?_ ?s ?t ?z; (case F => k_asm); (case N => k_asm); (case l => is_list); (case p => kmk_part); (case q => kmk_part); (case i => with_reducible assumption); (case m => first | with_reducible exact kmk_all (by with_reducible assumption) | (with_reducible refine kmk_from (by with_reducible assumption) ?_; omega) | (with_reducible refine kmk_upto (by with_reducible assumption) ?_; omega)); (case s => with_unfolding_all rfl); (case t => kmk_pure); (case z => omega)); intro D' ws' h' F' N' l1 nD' kD' hI'; (have lk9 := l1); (try k_lt l1)))
theorem hooks_c {prog : Program} {w : World} {p : Program} {loose : List Str} {mean : ExcName → Option Value} {mg mb : Str → Option Value}
    {dp un : Nat} {gd : Option (List Code)} {cn : Str} {cs : Scope} {a : Addr} {ccd : Value} {cl : List (Str × Addr)} {outer : List Env} {A₀ : Around} {base h₀ : Heap} {L : Addr} {m : Str → Option Value} {s : Shared} {Q E : Value → Shared → Prop} {l : Addr} {vs : List Value} {ns : List Int}
    (B : Below A₀ base outer h₀) (F : Fr h₀ L s.heap m) (X : (hd.heap_39 w.params).In h₀) (T : Top p loose mean mg mb h₀) (hk : cs.kind = .function)
    (hl : s.heap.IsList l vs.toArray) (hi : IntsAre vs ns) (hlen : ns.length ≤ 6) (hsz : ∀ x ∈ ns, 0 ≤ x ∧ x ≤ 6)
    (hdp : dp + 3 < recursionLimit) (hu : un + 30 < cLine)
    (hret : ∀ (r : Addr) (vr : List Value) (nr : Nat) (h' : Heap) (tk' : Nat), Fr h₀ L h' m → GSub s.heap h' [] → h'.get? r = some (listOf vr.toArray nr) → IntsAre vr (hooksP ns ns.length) → s.heap.get? r = none → Q (.ref r) { s with heap := h', toks := tk' }) :
    wpAny (model prog w) (ktrTop dp un gd cn cs L a ccd cl outer) (call (.ref 80) [.ref l]) Q E s := by
  have hfill : (fun (_ : OpenLaw) (_ : Params → Frag) => True) PySem.Challenge.rw_tr0001_01 hd.heap_39 := by
    k_fill
    trivial
  clear hfill
  have N : News h₀ L s.heap [] := News.nil
  refine wpAny_call ?_
  walk_at "M.enterC"
  k_with_none
  rename GSub _ _ _ => GS
  have hl' := kept_list hl GS
  k_with "M.for" =>
    (with_reducible show wpAny _ _ (exec (Stmt.For (Expr.Name (Str.ofString "column") _) _ _ _ _) _) _ _ _)
    k_dflt (refine for_cell (by intro _; rfl) ?_)
  k_with "M.iter" =>
    (with_reducible show wpAny _ _ (pyIter _) (fun it s₂ => ForC _ _ _ _ (Str.ofString "column") _ _ _ _ it s₂) _ _)
    rename IsRange _ _ _ _ _ _ _ _ => rI9
    rename News _ _ _ _ => nI9
    rename Fr _ _ _ _ => fI9
    k_dflt (have bI9 := getD_bnd (i := i9E) hsz)
    k_dflt (refine' cell_range (n := (ns.getD i9E 0).toNat) (fun j => hooksP ns i9E ++ rowJ ns i9E j) (Str.ofString "below") ?pE9I rfl rfl rfl rfl rI9 ?sm9I ?rn9I fI9 nI9 ?kd9I ?nd9I ?nk9I ?kk9I (hook_zero iz9E) ?turn9I ?done9I)
    k_dflt (case sm9I => exact small_one (by omega) (by omega) (by omega) (by omega))
    k_dflt (case rn9I => (rw [rangeSize_nat]; omega))
    k_dflt (case pE9I => passes_own)
    k_dflt (case kd9I => with_reducible assumption)
    k_dflt (case nd9I => with_reducible assumption)
    k_dflt (case nk9I => with_reducible assumption)
    k_dflt (case kk9I => with_reducible assumption)
    rotate_left
    intro uI hI tkI wsI cI oKI uKI iI dI FI NI
    rotate_right
    intro j9I t9 h9 tk9 own9 ws9 c9 oK9 u9 hj9I G9 iz9I d9I F9 N9
    (try simp only [List.cons_append, List.nil_append] at N9)
    (try k_fold)
  k_with "M.assign" =>
    (with_reducible show wpAny _ _ (exec (Stmt.Assign [Expr.Name (Str.ofString "below") _] _ _) _) _ _ _)
    rename News _ _ _ _ => nY9
    rename Fr _ _ _ _ => fY9
    k_dflt (refine' comp_assignG (zs := (ns.drop (i9E + 1)).filter fun o => decide (o > 0 + (j9I : Int))) fY9 nY9 rfl ?sw9G ?clos9G ?cell9G ?kind9G ?names9G ?loc9G ?pp9G ?fold9G ?run9G ?fin9G)
    k_dflt (case sw9G => with_unfolding_all rfl)
    k_dflt (case clos9G => with_unfolding_all rfl)
    k_dflt (case cell9G => decide)
    k_dflt (case kind9G => rfl)
    k_dflt (case names9G => decide)
    k_dflt (case loc9G => rfl)
    k_dflt (case pp9G => rfl)
    k_dflt (case fold9G => intro _; rfl)
    rotate_left
    intro DG hG tkG vsG FG NG lG iG
    k_lt lG
    rotate_right
    all_goals (try unfold CompRunG)
    all_goals (try dsimp only)
    all_goals (try k_fold)
  k_with "M.iter" =>
    rename IntsAre _ _ => iF9
    k_dflt (have eF9 : ((i9E : Int) + 1).toNat = i9E + 1 := by omega)
    k_dflt (rw [eF9] at iF9)
    rename News _ _ _ _ => nF9
    rename Fr _ _ _ _ => fF9
    k_dflt (refine' tail_filter (s := { s with heap := _ }) (fun o => decide (o > 0 + (j9I : Int))) (list_at (nF9 _ List.mem_cons_self).1) iF9 ?len9F rfl ?f9F ?n9F (fun _ => rfl) rfl (by decide) ?k9F ?turn9F)
    k_dflt (case len9F => (rw [List.length_drop]; omega))
    k_dflt (case f9F => with_reducible assumption)
    k_dflt (case n9F => with_reducible assumption)
    k_dflt (case k9F => with_reducible assumption)
    intro z9 hh9 tk9 C9 D9 oC9 m9 u9 ys9 E9 hz9 hO9 hx9 FF9 NN9 kk9
    (try k_fold)
  k_with "call builtin:len" =>
    k_dflt (refine len_z (by is_list) (by with_reducible assumption) (filt_len hlen) ?_)
  k_with "call builtin:list.append" =>
    rename GrowCx _ _ _ => gcx9
    k_dflt (refine' grow_append ?F9A ?N9A gcx9 ?D9A ?sub9A ?sz9A ?_)
    k_dflt (case F9A => k_asm)
    k_dflt (case N9A => k_asm)
    k_dflt (case D9A => k_mem)
    k_dflt (case sub9A => (intro p hp; (try simp only [List.cons_append, List.nil_append] at hp); repeat' (first | exact hp | refine List.mem_cons_of_mem _ ?_)))
    k_dflt (case sz9A => (rw [IntsAre.length (by with_reducible assumption), List.length_append]; have h1 := hooks_len hsz i9E; have h2 := getD_bnd (i := i9E) hsz; rw [List.length_map, List.length_range]; omega))
    intro h' F' N'
    (try simp only [List.cons_append, List.nil_append] at N')
  k_with "InvEndN" =>
    rename News _ _ _ _ => nE9
    rename Fr _ _ _ _ => fE9
    k_dflt (refine' growC_end fE9 nE9 ?D9C ?sub9C ?iz9C ?d9C ?m9C)
    k_dflt (case D9C => k_mem)
    k_dflt (case sub9C => (intro p hp; (try simp only [List.cons_append, List.nil_append] at hp); repeat' (first | exact hp | refine List.mem_cons_of_mem _ ?_)))
    k_dflt (case iz9C => exact hook_in iz9I rfl)
    k_dflt (case d9C => exact d9I)
    k_dflt (case m9C => (intro z hz; simp [hz]))
  k_with "InvEndN" =>
    rename News _ _ _ _ => nE9
    rename Fr _ _ _ _ => fE9
    k_dflt (refine' growE_end fE9 nE9 ?D9F ?sub9F ?iz9F ?d9F ?m9F)
    k_dflt (case D9F => k_mem)
    k_dflt (case sub9F => (intro p hp; (try simp only [List.cons_append, List.nil_append] at hp); repeat' (first | exact hp | refine List.mem_cons_of_mem _ ?_)))
    k_dflt (case iz9F => exact hook_out iI rfl)
    k_dflt (case d9F => exact dI)
    k_dflt (case m9F => (intro z h1 h2 h3; simp [h1, h2, h3]))
  k_with "call type:enumerate" =>
    refine call_enumerate_list (by is_list) ?_
    intro h9 he9 hit9 hz9 hk9
    (try k_dflt k_unfold)
    (try dsimp only)
    rename News _ _ _ _ => nE9
    rename Fr _ _ _ _ => fE9
    k_dflt (refine' enum_grow (xi := Str.ofString "row") (xc := Str.ofString "size") (hooksP ns) (Str.ofString "below") hl' hi rfl fE9 nE9 ?kd9 ?nd9 ?nk9 ?kk9 .nil he9 hit9 hk9 ?turn9 ?done9)
    k_dflt (case kd9 => k_ne)
    k_dflt (case nd9 => k_all)
    k_dflt (case nk9 => k_all)
    k_dflt (case kk9 => with_reducible assumption)
    rotate_left
    intro uE hE tkE wsE cE oKE uKE iE dE FE NE
    rotate_right
    intro i9E t9 t9' h9 tk9 own9 ws9 c9 oK9 uK9 u9 hi9E GD9 GK9 kd9E iz9E d9E F9 N9
    (try simp only [List.nil_append] at N9 GD9 GK9)
    (try k_fold)
  k_steps
  rename News _ _ _ _ => nE9
  rename Fr _ _ _ _ => fE9
  have mE9 := nE9 _ List.mem_cons_self
  exact hret _ _ _ _ _ (by k_asm) (keptOf (by assumption) (by assumption)) mE9.1 iE (none_base (kept_keep GS) (NE _ List.mem_cons_self).2.2)
end
end Mine
end
-- C8
section
theorem Mine.top_C8 : True := by
  w_top off
  trivial
open PySem PySem.W PyProof.Rows PySem.Spec PySem.Calls
set_option maxRecDepth 100000
set_option maxHeartbeats 8000000
set_option linter.unusedVariables false
namespace Mine
local macro_rules | `(tactic| walk_at "M.enterP") => `(tactic| (k_dflt (refine' code_defG ?k1 ?k2 ?k3 ?k4 ?k5 ?kA ?kF ?kK ?k6 ?k7 ?k8 ?k9 ?kB ?_ ?c2 ?c3 ?c4 ?c5; (case kA => exact rfl); (case kF => exact rfl); (case kK => assumption); (case k1 => k_asm); (case k2 => k_asm); (case k3 => k_asm); (case k4 => k_asm); (case k5 => k_asm); (case k6 => k_is); (case k7 => k_is); (case k8 => ktr_room); (case k9 => exact BindsTo.of_eq rfl); (case c5 => decide); (case kB => exact locs rfl); (case c2 => exact rfl); (case c3 => exact rfl); (case c4 => exact rfl); k_whole; intro g' L' h' FG' F' N' B' X' T' GS'; (try dsimp only); (try k_fold))))

def cellsP (ns : List Int) : Nat → List Int
  | 0 => [1, 1, 1, 4]
  | i + 1 => (cellsP ns i).set (i % 4) ((cellsP ns i).getD (i % 4) 0 + ns.getD i 0)
theorem cells_turn {ns : List Int} {i : Nat} {ws : List Value} {x : Int} {t : Tok} (iz : IntsAre ws (cellsP ns i)) (e : x = (cellsP ns i).getD (((0 + (i : Int) * 1).fmod 4).toNat) 0 + ns.getD ((0 + (i : Int) * 1).toNat) 0) : IntsAre (ws.set (((0 + (i : Int) * 1).fmod 4).toNat) (.int x t)) (cellsP ns (i + 1)) := by
  subst e
  rw [place4']
  have e2 : ((0 + (i : Int) * 1).toNat) = i := by omega
  rw [e2, cellsP]
  exact ints_set iz _ _ _
theorem cellsP_len (ns : List Int) : ∀ i, (cellsP ns i).length = 4
  | 0 => rfl
  | i + 1 => by rw [cellsP, List.length_set]; exact cellsP_len ns i
section
local macro_rules | `(tactic| walk_at "pyIter ref") => `(tactic| k_extra "M.iter")
theorem cells_c {prog : Program} {w : World} {p : Program} {loose : List Str} {mean : ExcName → Option Value} {mg mb : Str → Option Value}
    {dp un : Nat} {gd : Option (List Code)} {cn : Str} {cs : Scope} {a : Addr} {ccd : Value} {cl : List (Str × Addr)} {outer : List Env} {A₀ : Around} {base h₀ : Heap} {L : Addr} {m : Str → Option Value} {s : Shared} {Q E : Value → Shared → Prop} {l : Addr} {vs : List Value} {ns : List Int}
    (B : Below A₀ base outer h₀) (F : Fr h₀ L s.heap m) (X : (hd.heap_39 w.params).In h₀) (T : Top p loose mean mg mb h₀) (hk : cs.kind = .function)
    (hl : s.heap.IsList l vs.toArray) (hi : IntsAre vs ns) (hlen : ns.length ≤ 63)
    (hdp : dp + 3 < recursionLimit) (hu : un + 30 < cLine)
    (hret : ∀ (r : Addr) (vr : List Value) (nr : Nat) (h' : Heap) (tk' : Nat), Fr h₀ L h' m → GSub s.heap h' [] → h'.get? r = some (listOf vr.toArray nr) → IntsAre vr (cellsP ns ns.length) → s.heap.get? r = none → Q (.ref r) { s with heap := h', toks := tk' }) :
    wpAny (model prog w) (ktrTop dp un gd cn cs L a ccd cl outer) (call (.ref 63) [.ref l]) Q E s := by
  have hfill : (fun (_ : OpenLaw) (_ : Params → Frag) => True) PySem.Challenge.rw_tr0001_01 hd.heap_39 := by
    k_fill
    trivial
  clear hfill
  have N : News h₀ L s.heap [] := News.nil
  refine wpAny_call ?_
  walk_at "M.enterP"
  k_with_none
  rename GSub _ _ _ => GS
  have hl' := kept_list hl GS
  k_with "call builtin:len" =>
    k_dflt (refine len_z (by is_list) (by with_reducible assumption) (by omega) ?_)
  k_with "M.iter" =>
    rename IsRange _ _ _ _ 1 _ _ _ => rR9
    rename News _ _ _ _ => nR9
    rename Fr _ _ _ _ => fR9
    k_dflt (refine' grow_range (st := 1) (n := ns.length) (cellsP ns) rfl rR9 ?sm9R ?rn9R fR9 nR9 ?ne9R ?iz9R ?turn9R ?done9R)
    k_dflt (case sm9R => exact small_one (by omega) (by omega) (by omega) (by omega))
    k_dflt (case rn9R => exact rs_len _)
    k_dflt (case ne9R => k_all)
    k_dflt (case iz9R => repeat constructor)
    rotate_left
    intro uR hR tkR wsR cR iR FR NR
    rotate_right
    intro i9R t9 h9 tk9 own9 ws9 c9 hi9R G9 iz9R F9 N9
    (try simp only [List.cons_append, List.nil_append] at N9)
    (try k_fold)
  k_with "getItem ref int" =>
    k_dflt (refine' getItem_intsK (by is_list) iz9R ?a9I ?b9I ?c9I (fun t => ?_))
    k_dflt (case a9I => rw [place4]; omega)
    k_dflt (case b9I => rw [place4, cellsP_len]; omega)
    k_dflt (case c9I => rw [place4]; omega)
  k_with "setItem ref int" =>
    rename News _ _ _ _ => nS9
    rename Fr _ _ _ _ => fS9
    rename GrowCx _ _ _ => gS9
    k_dflt (refine' grow_set fS9 nS9 gS9 ?a9S ?b9S ?c9S ?_)
    k_dflt (case a9S => rw [place4]; omega)
    k_dflt (case b9S => rw [place4', IntsAre.length (by with_reducible assumption), cellsP_len]; omega)
    k_dflt (case c9S => rw [place4]; omega)
    intro h' F' N'
    (try simp only [List.cons_append, List.nil_append] at N')
  k_with "InvEndN" =>
    rename News _ _ _ _ => nE9
    rename Fr _ _ _ _ => fE9
    k_dflt (refine' grow_end fE9 nE9 ?D9C ?sub9C ?iz9C ?m9C)
    k_dflt (case D9C => k_mem)
    k_dflt (case sub9C => (intro p hp; (try simp only [List.cons_append, List.nil_append] at hp); repeat' (first | exact hp | refine List.mem_cons_of_mem _ ?_)))
    k_dflt (case iz9C => exact cells_turn iz9R rfl)
    k_dflt (case m9C => (intro z hz; simp [hz]))
  k_steps
  rename News _ _ _ _ => nE9
  rename Fr _ _ _ _ => fE9
  have mE9 := nE9 _ List.mem_cons_self
  exact hret _ _ _ _ _ (by k_asm) (keptOf (by assumption) (by assumption)) mE9.1 iR (none_base (kept_keep GS) (NR _ List.mem_cons_self).2.2)
end
end Mine
end
-- B18
section
open PySem PySem.W PyProof.Rows PySem.Spec PySem.Calls
set_option maxRecDepth 100000
set_option maxHeartbeats 8000000
set_option linter.unusedVariables false
namespace Mine
theorem told_s {prog : Program} {w : World} {mean : ExcName → Option Value} {mg mb : Str → Option Value}
    {dp un : Nat} {gd : Option (List Code)} {cn : Str} {cs : Scope} {a : Addr} {ccd : Value} {cl : List (Str × Addr)} {outer : List Env} {base : Heap} {L : Addr} {s : Shared} {Q E : Value → Shared → Prop} {l : Addr} {vs : List Value} {ns : List Int} {n : Int} {t4 : Tok} {zs : List Int}
    (ht : toldF ns n = some zs) (hkc : cs.kind = .function) (FA : FramesAt (envX cn cs L a ccd cl :: outer) base s.heap)
    (Kb : ∀ b o, base.get? b = some o → s.heap.get? b = some o) (X : (hd.heap_39 w.params).In base) (T : Top hd.view_39 (looseW hd.view_39 []) mean mg mb base)
    (hl : s.heap.IsList l vs.toArray) (hi : IntsAre vs ns) (hlen : ns.length ≤ 6) (hsz : ∀ x ∈ ns, 0 ≤ x ∧ x ≤ 6)
    (hdp : dp + 5 < recursionLimit) (hu : un + 400 < cLine)
    (hsome : ∀ (r : Addr) (vr : List Value) (h' : Heap) (tk' : Nat), UpK (envX cn cs L a ccd cl :: outer) [] s.heap h' → h'.get? r = some (lst vr) → IntsAre vr zs → s.heap.get? r = none → Q (.ref r) { s with heap := h', toks := tk' }) :
    wpAny (model prog w) (ktrTop dp un gd cn cs L a ccd cl outer) (call (.ref 75) [.ref l, .int n t4]) Q E s :=
  told_c hkc FA Kb X T hl hi hlen hsz hdp hu (fun e => by rw [ht] at e; cases e) fun zs' e => by rw [ht] at e; cases e; exact hsome
theorem frames_law {g h : Heap} {L : Addr} {m : Str → Option Value} {env : Env} (F : Fr g L h m) (hf : env.frame = some L) (hk : env.scope.kind = .function) : FramesAt [env] g h :=
  FramesAt.push (l := []) ⟨[], trivial, fun q hq => nomatch hq⟩ F.ns hf hk (Heap.get?_none_of_le F.above)
theorem law_fr {g h h9 : Heap} {L : Addr} {m : Str → Option Value} {env : Env} {adr : List Addr} (F : Fr g L h m) (U : UpK [env] adr h h9) (hf : env.frame = some L) (ha : ∀ b ∈ adr, g.get? b = none ∧ b ≠ L) : Fr g L h9 m := by
  have gL : g.get? L = none := Heap.get?_none_of_le F.above
  refine ⟨ns_upK F.ns U fun q => (ha L q).2 rfl, fun b o e => U.exact (F.keep b o e) (fun q => by rw [(ha b q).1] at e; cases e) fun q => ?_, F.above⟩
  have q' : b = L := by simpa [framesOf, hf] using q
  rw [q', gL] at e; cases e
theorem law_news {g h h9 : Heap} {L : Addr} {env : Env} {adr : List Addr} {led : List (Addr × Obj)} (N : News g L h led) (U : UpK [env] adr h h9) (hf : env.frame = some L) (ha : ∀ p ∈ led, p.1 ∉ adr) : News g L h9 led := fun p hp =>
  ⟨U.exact (N p hp).1 (ha p hp) fun q => by
    have q' : p.1 = L := by simpa [framesOf, hf] using q
    exact (N p hp).2.1 q', (N p hp).2⟩
theorem news_cons {g h h' : Heap} {L r : Addr} {m : Str → Option Value} {o : Obj} {led : List (Addr × Obj)} (F : Fr g L h m) (N : News g L h' led) (hr : h'.get? r = some o) (fr : h.get? r = none) : News g L h' ((r, o) :: led) := by
  obtain ⟨oL, es, ep, e, _⟩ := F.ns
  intro p hp
  rcases List.mem_cons.mp hp with rfl | hp
  · exact ⟨hr, ne_none fr e, none_base F.keep fr⟩
  · exact N p hp
theorem law_uld {g h h9 : Heap} {L t r e c : Addr} {m : Str → Option Value} {env : Env} {ot or' oc oe oc' oe' : Obj} {led : List (Addr × Obj)} (F : Fr g L h m) (N : News g L h ((c, oc) :: (e, oe) :: led)) (U : UpK [env] [e, c] h h9) (hf : env.frame = some L)
    (le : ∀ p ∈ led, p.1 < e) (lc : ∀ p ∈ (e, oe) :: led, p.1 < c)
    (ht : h9.get? t = some ot) (hr : h9.get? r = some or') (hc : h9.get? c = some oc') (he : h9.get? e = some oe') (ft : h.get? t = none) (fr : h.get? r = none) :
    Fr g L h9 m ∧ News g L h9 ((t, ot) :: (r, or') :: (c, oc') :: (e, oe') :: led) := by
  have zc := N _ List.mem_cons_self
  have ze := N _ (List.mem_cons_of_mem _ List.mem_cons_self)
  refine ⟨law_fr F U hf fun b hb => ?_, ?_⟩
  · rcases List.mem_cons.mp hb with rfl | hb
    · exact ⟨ze.2.2, ze.2.1⟩
    · rw [List.mem_singleton.mp hb]; exact ⟨zc.2.2, zc.2.1⟩
  · have N1 : News g L h9 led := law_news (fun p hp => N p (List.mem_cons_of_mem _ (List.mem_cons_of_mem _ hp))) U hf fun p hp q => by
      rcases List.mem_cons.mp q with q | q
      · exact absurd (le p hp) (q ▸ Nat.lt_irrefl _)
      · exact absurd (lc p (List.mem_cons_of_mem _ hp)) (List.mem_singleton.mp q ▸ Nat.lt_irrefl _)
    have N2 : News g L h9 ((c, oc') :: (e, oe') :: led) := by
      intro p hp
      rcases List.mem_cons.mp hp with rfl | hp
      · exact ⟨hc, zc.2⟩
      rcases List.mem_cons.mp hp with rfl | hp
      · exact ⟨he, ze.2⟩
      · exact N1 p hp
    exact news_cons F (news_cons F N2 hr fr) ht ft
end Mine
end
-- B19
section
open PySem PySem.W PyProof.Rows PySem.Spec PySem.Calls
set_option maxRecDepth 100000
set_option maxHeartbeats 8000000
set_option linter.unusedVariables false
namespace Mine
theorem prod_bits {b : Nat} : ∀ {k : Nat} {ns : List Int}, ns.length = k → (∀ x ∈ ns, intBits x ≤ b) → intBits (prodF ns) ≤ k * b + 1
  | 0, ns, e, _ => by
    rw [List.length_eq_zero_iff.mp e]; exact Nat.le_of_ble_eq_true rfl
  | k + 1, ns, e, h => by
    obtain ⟨p, x, rfl⟩ : ∃ p x, ns = p ++ [x] := by
      rcases List.eq_nil_or_concat ns with rfl | ⟨p, x, q⟩
      · cases e
      · exact ⟨p, x, by simpa using q⟩
    rw [List.length_append, List.length_singleton] at e
    have h1 := prod_bits (b := b) (k := k) (ns := p) (by omega) fun y hy => h y (List.mem_append_left _ hy)
    have h2 := h x (List.mem_append_right _ List.mem_cons_self)
    rw [prodF_snoc]
    refine Nat.le_trans (intBits_mul_le h1 h2) ?_
    rw [Nat.succ_mul]; omega
theorem hok_bits {ns : List Int} (b : Nat) (h : ∀ x ∈ ns, intBits x ≤ b) (hl : ns.length ≤ 12) (hb : 14 * b + 1 ≤ 134217728) : ∀ pre x post, ns = pre ++ x :: post → IntMulOk (prodF pre) x := by
  intro pre x post e
  subst e
  have h1 := prod_bits (b := b) (k := pre.length) (ns := pre) rfl fun y hy => h y (List.mem_append_left _ hy)
  have h2 := h x (List.mem_append_right _ List.mem_cons_self)
  rw [List.length_append, List.length_cons] at hl
  refine IntMulOk.of_le h1 h2 ?_
  have : pre.length * b ≤ 12 * b := Nat.mul_le_mul_right _ (by omega)
  omega
theorem hok_small {ns : List Int} (h : ∀ x ∈ ns, 1 ≤ x ∧ x ≤ 8) (hl : ns.length ≤ 12) : ∀ pre x post, ns = pre ++ x :: post → IntMulOk (prodF pre) x :=
  hok_bits 64 (fun x hx => intBits_le_64 (by have := h x hx; omega) (by have := h x hx; omega)) hl (by decide)
theorem cells_bits {ns : List Int} (h : PyData.layable0 (.list (ns.map .int)) = true) : ∀ i, ∀ x ∈ cellsP ns i, intBits x ≤ 1048579 + i
  | 0, x, hx => by
    refine Nat.le_trans (intBits_le_64 ?_ ?_) (by decide : 64 ≤ 1048579 + 0) <;>
    · simp only [cellsP, List.mem_cons, List.not_mem_nil, or_false] at hx
      rcases hx with rfl | rfl | rfl | rfl <;> decide
  | i + 1, x, hx => by
    rw [cellsP] at hx
    rcases List.mem_or_eq_of_mem_set hx with hx | rfl
    · exact Nat.le_trans (cells_bits h i x hx) (by omega)
    · have h1 : intBits ((cellsP ns i).getD (i % 4) 0) ≤ 1048579 + i := by
        have hlt : i % 4 < (cellsP ns i).length := by rw [cellsP_len]; exact Nat.mod_lt _ (by decide)
        rw [List.getD_eq_getElem?_getD, List.getElem?_eq_getElem hlt]
        exact cells_bits h i _ (List.getElem_mem hlt)
      have h2 : intBits (ns.getD i 0) ≤ 2 ^ 20 := bits_getD h
      refine Nat.le_trans (intBits_add_le h1 h2) ?_
      have : (2 : Nat) ^ 20 = 1048576 := by decide
      omega
theorem cell_bits {n : Int} {ns : List Int} (hb : intBits n ≤ 1100000) (hl : ns.length ≤ 6) (hz : ∀ x ∈ ns, 0 ≤ x ∧ x ≤ 6) {x : Int} (hx : x ∈ (List.range 3).flatMap fun i => (List.range (ns.getD i 0).toNat).map fun (j : Nat) => n + ((0 + (j : Int)) - (i : Int))) : intBits x ≤ 1100001 := by
  obtain ⟨i, hi, hx⟩ := List.mem_flatMap.mp hx
  obtain ⟨j, hj, rfl⟩ := List.mem_map.mp hx
  have := List.mem_range.mp hi
  have := List.mem_range.mp hj
  have := getD_bnd (i := i) hz
  refine Nat.le_trans (intBits_add_le (n := 64) hb (intBits_le_64 (by omega) (by omega))) (by decide)
theorem cell_len {n : Int} {ns : List Int} (h : (ns.getD 0 0).toNat + (ns.getD 1 0).toNat + (ns.getD 2 0).toNat ≤ 12) : ((List.range 3).flatMap fun i => (List.range (ns.getD i 0).toNat).map fun (j : Nat) => n + ((0 + (j : Int)) - (i : Int))).length ≤ 12 := by
  simp only [show List.range 3 = [0, 1, 2] from rfl, List.flatMap_cons, List.flatMap_nil, List.length_append, List.length_map, List.length_range, List.length_nil]
  omega
end Mine
end
-- PA
section
open PySem PySem.W PyProof.Rows PySem.Spec PySem.Calls
set_option maxRecDepth 100000
set_option maxHeartbeats 8000000
set_option linter.unusedVariables false
namespace Mine
-- rising products
def rise (n : Int) : Nat → Int
  | 0 => 1
  | k + 1 => rise n k * (n + (k : Int))
def fac : Nat → Int
  | 0 => 1
  | k + 1 => fac k * ((k : Int) + 1)
theorem fac_pos : ∀ k, 0 < fac k
  | 0 => by decide
  | k + 1 => by rw [fac]; exact Int.mul_pos (fac_pos k) (by omega)
theorem rise_left (n : Int) : ∀ k, rise n (k + 1) = n * rise (n + 1) k
  | 0 => by simp [rise]
  | k + 1 => by
    rw [rise, rise_left n k, rise, Int.mul_assoc]
    congr 2; omega
theorem rise_next (n : Int) (k : Nat) : rise (n + 1) (k + 1) = rise n (k + 1) + ((k : Int) + 1) * rise (n + 1) k := by
  rw [rise_left n k, rise]
  grind
theorem rise_zero : ∀ k, rise 0 (k + 1) = 0
  | 0 => by simp [rise]
  | k + 1 => by rw [rise, rise_zero k, Int.zero_mul]
theorem fac_dvd : ∀ (k : Nat) (n : Int), fac k ∣ rise n k
  | 0, n => ⟨1, by simp [fac, rise]⟩
  | k + 1, n => by
    have step : ∀ m : Int, fac (k + 1) ∣ ((k : Int) + 1) * rise (m + 1) k := fun m => by
      obtain ⟨q, e⟩ := fac_dvd k (m + 1)
      exact ⟨q, by rw [e, fac]; grind⟩
    have up : ∀ j : Nat, fac (k + 1) ∣ rise (j : Int) (k + 1) := by
      intro j
      induction j with
      | zero => exact ⟨0, by simpa using rise_zero k⟩
      | succ j ih =>
        rw [show ((j + 1 : Nat) : Int) = (j : Int) + 1 by omega, rise_next]
        exact Int.dvd_add ih (step _)
    have down : ∀ j : Nat, fac (k + 1) ∣ rise (-(j : Int)) (k + 1) := by
      intro j
      induction j with
      | zero => exact ⟨0, by simpa using rise_zero k⟩
      | succ j ih =>
        have e := rise_next (-((j + 1 : Nat) : Int)) k
        rw [show -((j + 1 : Nat) : Int) + 1 = -(j : Int) by omega] at e
        have e2 : rise (-((j + 1 : Nat) : Int)) (k + 1) = rise (-(j : Int)) (k + 1) - ((k : Int) + 1) * rise (-(j : Int)) k := by omega
        rw [e2]
        refine Int.dvd_sub ih ?_
        have := step (-((j + 1 : Nat) : Int))
        rwa [show -((j + 1 : Nat) : Int) + 1 = -(j : Int) by omega] at this
    rcases Int.le_total 0 n with h | h
    · have := up n.toNat
      rwa [Int.toNat_of_nonneg h] at this
    · have := down (-n).toNat
      rwa [Int.toNat_of_nonneg (by omega), Int.neg_neg] at this
theorem choices_rise (n : Int) : ∀ k, fac k * choicesL n k = rise n k
  | 0 => by simp [fac, choicesL, rise]
  | k + 1 => by
    obtain ⟨q, e⟩ := fac_dvd (k + 1) n
    have ih := choices_rise n k
    have h : choicesL n k * (n + (k : Int)) = ((k : Int) + 1) * q := by
      refine Int.eq_of_mul_eq_mul_left (Int.ne_of_gt (fac_pos k)) ?_
      have e1 : rise n (k + 1) = rise n k * (n + (k : Int)) := rfl
      rw [← Int.mul_assoc, ih, ← e1, e, fac, Int.mul_assoc]
    have hd : (choicesL n k * (n + (k : Int))).fdiv ((k : Int) + 1) = q := by
      rw [h]
      exact Int.mul_fdiv_cancel_left _ (by omega)
    rw [choicesL, hd, e]
-- polynomials
def ev : List Int → Int → Int
  | [], _ => 0
  | a :: p, n => a + n * ev p n
def padd : List Int → List Int → List Int
  | [], q => q
  | p, [] => p
  | a :: p, b :: q => (a + b) :: padd p q
def pscale (c : Int) : List Int → List Int
  | [] => []
  | a :: p => (c * a) :: pscale c p
def pmul : List Int → List Int → List Int
  | [], _ => []
  | a :: p, q => padd (pscale a q) (0 :: pmul p q)
theorem ev_add (n : Int) : ∀ p q, ev (padd p q) n = ev p n + ev q n
  | [], q => by simp [padd, ev]
  | a :: p, [] => by simp [padd, ev]
  | a :: p, b :: q => by
    simp only [padd, ev, ev_add n p q]; grind
theorem ev_scale (n c : Int) : ∀ p, ev (pscale c p) n = c * ev p n
  | [] => by simp [pscale, ev]
  | a :: p => by
    simp only [pscale, ev, ev_scale n c p]; grind
theorem ev_mul (n : Int) : ∀ p q, ev (pmul p q) n = ev p n * ev q n
  | [], q => by simp [pmul, ev]
  | a :: p, q => by
    simp only [pmul, ev_add, ev_scale, ev, ev_mul n p q]; grind
def psub (p q : List Int) : List Int := padd p (pscale (-1) q)
theorem ev_sub (n : Int) (p q : List Int) : ev (psub p q) n = ev p n - ev q n := by
  rw [psub, ev_add, ev_scale]; omega
def pzero (p : List Int) : Bool := p.all fun c => decide (c = 0)
theorem ev_zero (n : Int) : ∀ {p}, pzero p = true → ev p n = 0
  | [], _ => rfl
  | a :: p, h => by
    simp only [pzero, List.all_cons, Bool.and_eq_true, decide_eq_true_eq] at h
    rw [ev, h.1, ev_zero n (p := p) h.2]; simp
def riseP : Nat → List Int
  | 0 => [1]
  | k + 1 => pmul (riseP k) [(k : Int), 1]
theorem ev_rise (n : Int) : ∀ k, ev (riseP k) n = rise n k
  | 0 => by simp [riseP, ev, rise]
  | k + 1 => by
    rw [riseP, ev_mul, ev_rise n k, rise]
    simp only [ev]; grind
-- top! times the choices
def chP (top : Nat) (k : Int) : List Int := if k < 0 then [] else pscale ((fac top).ediv (fac k.toNat)) (riseP k.toNat)
def chOk (top : Nat) (k : Int) : Bool := decide (k < 0) || decide ((fac top).ediv (fac k.toNat) * fac k.toNat = fac top)
theorem ev_ch {top : Nat} {k : Int} (n : Int) (h : chOk top k = true) : ev (chP top k) n = fac top * choicesF n k := by
  unfold chP choicesF
  by_cases hk : k < 0
  · rw [if_pos hk, if_pos hk]; simp [ev]
  · rw [if_neg hk, if_neg hk, ev_scale, ev_rise, ← choices_rise, ← Int.mul_assoc]
    simp only [chOk, hk, decide_false, Bool.false_or, decide_eq_true_eq] at h
    rw [h]
def detP (x y z : Int) : List Int :=
  let A := (x + 2).toNat
  let B := (y + 1).toNat
  let C := z.toNat
  padd (psub (pmul (chP A (x + 0)) (psub (pmul (chP B (y - 1 + 1)) (chP C (z - 2 + 2))) (pmul (chP B (y - 1 + 2)) (chP C (z - 2 + 1)))))
    (pmul (chP A (x + 1)) (psub (pmul (chP B (y - 1 + 0)) (chP C (z - 2 + 2))) (pmul (chP B (y - 1 + 2)) (chP C (z - 2 + 0))))))
    (pmul (chP A (x + 2)) (psub (pmul (chP B (y - 1 + 0)) (chP C (z - 2 + 1))) (pmul (chP B (y - 1 + 1)) (chP C (z - 2 + 0)))))
def detOk (x y z : Int) : Bool :=
  let A := (x + 2).toNat
  let B := (y + 1).toNat
  let C := z.toNat
  chOk A (x + 0) && chOk A (x + 1) && chOk A (x + 2) && chOk B (y - 1 + 0) && chOk B (y - 1 + 1) && chOk B (y - 1 + 2) && chOk C (z - 2 + 0) && chOk C (z - 2 + 1) && chOk C (z - 2 + 2)
theorem det_alg (a b c d e f g h i A B C : Int) : (A*a)*((B*e)*(C*i) - (B*f)*(C*h)) - (A*b)*((B*d)*(C*i) - (B*f)*(C*g)) + (A*c)*((B*d)*(C*h) - (B*e)*(C*g)) = A*B*C*(a*(e*i-f*h) - b*(d*i-f*g)+c*(d*h-e*g)) := by grind
theorem ev_det {x y z : Int} (n : Int) (h : detOk x y z = true) : ev (detP x y z) n = fac (x + 2).toNat * fac (y + 1).toNat * fac z.toNat * detF n x y z := by
  simp only [detOk, Bool.and_eq_true] at h
  obtain ⟨⟨⟨⟨⟨⟨⟨⟨h1, h2⟩, h3⟩, h4⟩, h5⟩, h6⟩, h7⟩, h8⟩, h9⟩ := h
  simp only [detP, ev_add, ev_sub, ev_mul, ev_ch n h1, ev_ch n h2, ev_ch n h3, ev_ch n h4, ev_ch n h5, ev_ch n h6, ev_ch n h7, ev_ch n h8, ev_ch n h9]
  exact det_alg _ _ _ _ _ _ _ _ _ _ _ _
-- the cells
def cellC (ns : List Int) : List Int := (List.range 3).flatMap fun i => (List.range (ns.getD i 0).toNat).map fun (j : Nat) => (0 + (j : Int)) - (i : Int)
def cellP (cs : List Int) : List Int := cs.foldl (fun p c => pmul p [c, 1]) [1]
theorem ev_cells (n : Int) : ∀ (cs p : List Int), ev (cs.foldl (fun p c => pmul p [c, 1]) p) n = (cs.map fun c => n + c).foldl (· * ·) (ev p n)
  | [], p => rfl
  | c :: cs, p => by
    rw [List.foldl_cons, ev_cells n cs, List.map_cons, List.foldl_cons, ev_mul]
    congr 2
    simp only [ev]; grind
theorem prod_cells (n : Int) (cs : List Int) : prodF (cs.map fun c => n + c) = ev (cellP cs) n := by
  rw [cellP, ev_cells, prodF]
  simp [ev]
end Mine
end
-- PB
section
open PySem PySem.W PyProof.Rows PySem.Spec PySem.Calls
set_option maxRecDepth 100000
set_option maxHeartbeats 8000000
set_option linter.unusedVariables false
namespace Mine
section
variable {f : Int → Int} (hf : ∀ a b, f a = f b → a = b)
include hf
theorem mem_mapI {x : Int} {l : List Int} : f x ∈ l.map f ↔ x ∈ l := by
  constructor
  · intro h
    obtain ⟨y, hy, e⟩ := List.mem_map.mp h
    rw [← hf y x e]; exact hy
  · exact fun h => List.mem_map_of_mem h
theorem erase_mapI (x : Int) : ∀ l : List Int, (l.map f).erase (f x) = (l.erase x).map f
  | [] => rfl
  | a :: l => by
    rw [List.map_cons, List.erase_cons, List.erase_cons]
    by_cases h : a = x
    · subst h; simp
    · have h' : f a ≠ f x := fun e => h (hf _ _ e)
      simp [h, h', erase_mapI x l]
theorem count_mapI (x : Int) : ∀ l : List Int, (l.map f).count (f x) = l.count x
  | [] => rfl
  | a :: l => by
    rw [List.map_cons, List.count_cons, List.count_cons, count_mapI x l]
    by_cases h : a = x
    · subst h; simp
    · have h' : f a ≠ f x := fun e => h (hf _ _ e)
      simp [h, h']
theorem inj_mapI : ∀ {l k : List Int}, l.map f = k.map f ↔ l = k
  | [], [] => by simp
  | [], _ :: _ => by simp
  | _ :: _, [] => by simp
  | a :: l, b :: k => by
    simp only [List.map_cons, List.cons.injEq, inj_mapI (l := l) (k := k)]
    exact ⟨fun h => ⟨hf _ _ h.1, h.2⟩, fun h => ⟨by rw [h.1], h.2⟩⟩
theorem step_mapI (st : List Int × List Int) (x : Int) : uldStep (st.1.map f, st.2.map f) (f x) = ((uldStep st x).1.map f, (uldStep st x).2.map f) := by
  unfold uldStep
  by_cases h : x ∈ st.2
  · simp only [if_pos h, if_pos ((mem_mapI hf).mpr h), erase_mapI hf]
  · simp only [if_neg h, if_neg (fun q => h ((mem_mapI hf).mp q)), List.map_append, List.map_cons, List.map_nil]
theorem fold_mapI : ∀ (l : List Int) (st : List Int × List Int), (l.map f).foldl uldStep (st.1.map f, st.2.map f) = ((l.foldl uldStep st).1.map f, (l.foldl uldStep st).2.map f)
  | [], st => rfl
  | a :: l, st => by
    rw [List.map_cons, List.foldl_cons, List.foldl_cons, step_mapI hf st a]
    exact fold_mapI l (uldStep st a)
theorem uld_mapI (xs ys : List Int) : uldF (xs.map f) (ys.map f) = ((uldF xs ys).1.map f, (uldF xs ys).2.map f) := by
  unfold uldF
  rw [← List.map_reverse]
  exact fold_mapI hf xs.reverse ([], ys)
theorem due_mapI (S G : List Int) : ∀ i, i ≤ S.length → dueP (S.map f) (G.map f) i = (dueP S G i).map f
  | 0, _ => rfl
  | i + 1, h => by
    have hlt : S.length - 1 - i < S.length := by omega
    have e : (S.map f).getD ((S.map f).length - 1 - i) 0 = f (S.getD (S.length - 1 - i) 0) := by
      rw [List.length_map]; exact getD_mapK f S _ hlt
    unfold dueP
    rw [e, List.length_map, ← List.map_drop, count_mapI hf, count_mapI hf, due_mapI S G i (by omega)]
    split
    · rw [List.map_append]; rfl
    · rfl
theorem rest_mapI (S G : List Int) : ∀ i, i ≤ S.length → restP (S.map f) (G.map f) i = (restP S G i).map f
  | 0, _ => rfl
  | i + 1, h => by
    have hlt : i < S.length := by omega
    have e : (S.map f).getD i 0 = f (S.getD i 0) := getD_mapK f S _ hlt
    unfold restP
    rw [e, ← List.map_take, count_mapI hf, count_mapI hf, rest_mapI S G i (by omega)]
    split
    · rw [List.map_append]; rfl
    · rfl
end
theorem steps_shift (ms : List Int) (n : Int) : stepsF ms n = (stepsF ms 0).map fun x => x + n := by
  unfold stepsF
  rw [List.map_flatMap]
  refine congrArg (fun g => List.flatMap g ms) (funext fun mk => ?_)
  rw [List.map_map]
  refine congrArg (fun g => List.map g _) (funext fun j => ?_)
  show (1 + (j : Int)) + n = ((1 + (j : Int)) + 0) + n
  omega
theorem gaps_shift (ms : List Int) (n : Int) : gapsF ms n = (gapsF ms 0).map fun x => x + n := by
  unfold gapsF
  rw [List.map_flatMap]
  congr 1
  funext i
  rw [List.map_map]
  congr 1
  funext later
  show (ms.getD i 0 - later) + n = ((ms.getD i 0 - later) + 0) + n
  omega
theorem told_shift (ns : List Int) (n : Int) : toldF ns n = toldF ns 0 := by
  have hf : ∀ a b : Int, (fun x : Int => x + n) a = (fun x : Int => x + n) b → a = b := fun a b e => by
    have e' : a + n = b + n := e
    omega
  unfold toldF
  rw [steps_shift, gaps_shift]
  generalize stepsF (marksF ns) 0 = S
  generalize gapsF (marksF ns) 0 = G
  unfold toldS
  have hz : ∀ l : List Int, l.map (fun x => x + n) = [] ↔ l = [] := fun l => List.map_eq_nil_iff
  have hd : dueF (S.map fun x => x + n) (G.map fun x => x + n) = (dueF S G).map fun x => x + n := by
    unfold dueF
    rw [List.length_map]; exact due_mapI hf S G _ (Nat.le_refl _)
  have hr : restF (S.map fun x => x + n) (G.map fun x => x + n) = (restF S G).map fun x => x + n := by
    unfold restF
    rw [List.length_map]; exact rest_mapI hf S G _ (Nat.le_refl _)
  rw [uld_mapI hf, uld_mapI hf, hd, hr]
  dsimp only
  simp only [inj_mapI hf, hz, List.map_map]
  have e : ((fun x : Int => x - n) ∘ fun x : Int => x + n) = fun x : Int => x - 0 := by
    funext x
    show x + n - n = x - 0
    omega
  rw [e]
end Mine
end
-- PL
section
open PySem PySem.W PyProof.Rows PySem.Spec PySem.Calls
set_option maxRecDepth 100000
set_option maxHeartbeats 8000000
set_option linter.unusedVariables false
namespace Mine
abbrev sideC (ns : List Int) (c : Nat) : Int := ((ns.filter fun o => decide (o > 0 + (c : Int))).length : Int)
abbrev sideF (ns : List Int) : List Int := (List.range (ns.getD 0 0).toNat).map (sideC ns)
abbrev cellR (n : Int) (ns : List Int) (i : Nat) : List Int := (List.range (ns.getD i 0).toNat).map fun (j : Nat) => n + ((0 + (j : Int)) - (i : Int))
abbrev cellW (n : Int) (ns : List Int) : List Int := (List.range 3).flatMap (cellR n ns)
theorem cell_map (n : Int) (ns : List Int) : cellW n ns = (cellC ns).map fun c => n + c := by
  unfold cellW cellC
  rw [List.map_flatMap]
  refine congrArg (fun g => List.flatMap g (List.range 3)) (funext fun i => ?_)
  rw [List.map_map]
  rfl
def facsF (x y z : Int) : Int := fac (x + 2).toNat * fac (y + 1).toNat * fac z.toNat
def rowsOk (lo md hi : Int) (rows cols : List Int) : Bool :=
  rows.isPerm (hooksP [hi, md, lo] 3) && decide ((uldF rows cols).1 = []) && decide ((uldF rows cols).2 = []) && decide (rows.length ≤ 12) && decide (cols.length ≤ 12) && (rows.all fun x => decide (1 ≤ x ∧ x ≤ 8)) && decide (0 < prodF rows) && decide (prodF rows < 1000000000) &&
    detOk hi md lo && pzero (psub (pscale (facsF hi md lo) (cellP (cellC [hi, md, lo]))) (pscale (prodF rows) (detP hi md lo)))
def shapeOk (lo md hi : Int) : Bool :=
  match toldF [hi, md, lo] 0, toldF (sideF [hi, md, lo]) 0 with
  | some rows, some cols => rowsOk lo md hi rows cols
  | _, _ => false
theorem shape_all {lo md hi : Int} (h1 : 0 ≤ lo) (h2 : lo ≤ 2) (h3 : lo ≤ md) (h4 : md ≤ lo + 2) (h5 : md ≤ hi) (h6 : hi ≤ md + 2) : shapeOk lo md hi = true := by
  have e1 : lo = 0 ∨ lo = 1 ∨ lo = 2 := by omega
  have e2 : md = lo ∨ md = lo + 1 ∨ md = lo + 2 := by omega
  have e3 : hi = md ∨ hi = md + 1 ∨ hi = md + 2 := by omega
  clear h1 h2 h3 h4 h5 h6
  rcases e1 with rfl | rfl | rfl <;> rcases e2 with rfl | rfl | rfl <;> rcases e3 with rfl | rfl | rfl <;> decide +kernel
theorem rows_use {lo md hi n : Int} {rows cols : List Int} (h : rowsOk lo md hi rows cols = true) : rows.Perm (hooksP [hi, md, lo] 3) ∧ (uldF rows cols).1 = [] ∧ (uldF rows cols).2 = [] ∧ rows.length ≤ 12 ∧ cols.length ≤ 12 ∧ (∀ x ∈ rows, 1 ≤ x ∧ x ≤ 8) ∧
      0 < prodF rows ∧ prodF rows < 1000000000 ∧ prodF (cellW n [hi, md, lo]) = prodF rows * detF n hi md lo := by
  simp only [rowsOk, Bool.and_eq_true, decide_eq_true_eq, List.all_eq_true] at h
  obtain ⟨⟨⟨⟨⟨⟨⟨⟨⟨a1, a2⟩, a3⟩, a4⟩, a5⟩, a6⟩, a7⟩, a8⟩, a9⟩, aA⟩ := h
  refine ⟨List.isPerm_iff.mp a1, a2, a3, a4, a5, fun x hx => a6 x hx, a7, a8, ?_⟩
  have z := ev_zero n aA
  rw [ev_sub, ev_scale, ev_scale, ev_det n a9, ← prod_cells, ← cell_map] at z
  have hf : facsF hi md lo ≠ 0 := by
    unfold facsF
    have := fac_pos (hi + 2).toNat
    have := fac_pos (md + 1).toNat
    have := fac_pos lo.toNat
    exact Int.ne_of_gt (Int.mul_pos (Int.mul_pos (by assumption) (by assumption)) (by assumption))
  refine Int.eq_of_mul_eq_mul_left hf ?_
  have e : facsF hi md lo * (prodF rows * detF n hi md lo) = prodF rows * (fac (hi + 2).toNat * fac (md + 1).toNat * fac lo.toNat * detF n hi md lo) := by
    unfold facsF; grind
  rw [e]; omega
theorem law_plain {lo md hi n : Int} (h1 : 0 ≤ lo) (h2 : lo ≤ 2) (h3 : lo ≤ md) (h4 : md ≤ lo + 2) (h5 : md ≤ hi) (h6 : hi ≤ md + 2) :
    ∃ rows cols : List Int, toldF [hi, md, lo] n = some rows ∧ toldF (sideF [hi, md, lo]) n = some cols ∧ rows.Perm (hooksP [hi, md, lo] 3) ∧ (uldF rows cols).1 = [] ∧ (uldF rows cols).2 = [] ∧ rows.length ≤ 12 ∧ cols.length ≤ 12 ∧ (∀ x ∈ rows, 1 ≤ x ∧ x ≤ 8) ∧
      0 < prodF rows ∧ prodF rows < 1000000000 ∧ prodF (cellW n [hi, md, lo]) = prodF rows * detF n hi md lo := by
  have h := shape_all h1 h2 h3 h4 h5 h6
  unfold shapeOk at h
  rw [told_shift [hi, md, lo] n, told_shift (sideF [hi, md, lo]) n]
  cases er : toldF [hi, md, lo] 0 with
  | none => rw [er] at h; cases h
  | some rows =>
    cases ec : toldF (sideF [hi, md, lo]) 0 with
    | none => rw [er, ec] at h; cases h
    | some cols =>
      rw [er, ec] at h
      exact ⟨rows, cols, rfl, rfl, rows_use h⟩
end Mine
end
-- C9
section
theorem Mine.top_C9 : True := by
  w_top off
  trivial
open PySem PySem.W PyProof.Rows PySem.Spec PySem.Calls
set_option maxRecDepth 100000
set_option maxHeartbeats 8000000
set_option linter.unusedVariables false
namespace Mine

theorem ints4 {ws : List Value} {a b c d : Int} (h : IntsAre ws [a, b, c, d]) : ∃ t1 t2 t3 t4 : Tok, ws = [.int a t1, .int b t2, .int c t3, .int d t4] := by
  cases h with
  | cons _ t1 h => cases h with
    | cons _ t2 h => cases h with
      | cons _ t3 h => cases h with
        | cons _ t4 h => cases h with
          | nil => exact ⟨t1, t2, t3, t4, rfl⟩
theorem four {l : List Int} (h : l.length = 4) : ∃ a b c d, l = [a, b, c, d] := by
  match l, h with
  | [a, b, c, d], _ => exact ⟨a, b, c, d, rfl⟩
theorem side_bnd {ns : List Int} (h : ns.length ≤ 6) (hz : ∀ x ∈ ns, 0 ≤ x ∧ x ≤ 6) : (sideF ns).length ≤ 6 ∧ ∀ x ∈ sideF ns, 0 ≤ x ∧ x ≤ 6 := by
  refine ⟨?_, fun x hx => ?_⟩
  · have := getD_bnd (i := 0) hz
    rw [List.length_map, List.length_range]; omega
  · obtain ⟨i, _, rfl⟩ := List.mem_map.mp hx
    have h1 : (ns.filter fun o => decide (o > 0 + (i : Int))).length ≤ ns.length := List.length_filter_le ..
    show 0 ≤ ((ns.filter fun o => decide (o > 0 + (i : Int))).length : Int) ∧ ((ns.filter fun o => decide (o > 0 + (i : Int))).length : Int) ≤ 6
    omega
theorem shape_bnd {lo md hi : Int} (h1 : 0 ≤ lo) (h2 : lo ≤ 2) (h3 : lo ≤ md) (h4 : md ≤ lo + 2) (h5 : md ≤ hi) (h6 : hi ≤ md + 2) : ∀ x ∈ [hi, md, lo], 0 ≤ x ∧ x ≤ 6 := by
  intro x hx
  simp only [List.mem_cons, List.not_mem_nil, or_false] at hx
  rcases hx with rfl | rfl | rfl <;> omega
theorem ints_shape {a b c : Int} {t u v : Tok} : IntsAre [.int a t, .int b u, .int c v] [a, b, c] := .cons _ _ (.cons _ _ (.cons _ _ .nil))
theorem item_lit {prog : Program} {w : World} {A : Around} {E : Value → Shared → Prop} {s : Shared} {value slice : PySem.Expr} {l : Addr} {items : Array Value} {k : Int} {u : Tok} {x : Value} {Q : Value → Shared → Prop} (hl : s.heap.IsList l items) (h0 : 0 ≤ k) (hfit : k < 2 ^ 63) (hx : items[k.toNat]? = some x) (h : Q x s)
    (hs : subscripted slice false (.ref l) (.int k u) = operate [.ref l, .int k u] (getItem (.ref l) (.int k u))) : wpAny (model prog w) A (subscriptTail value slice (.ref l) (.int k u)) Q E s :=
  tail_any hl.typeIs slot_list_getitem.lookup (wpAny_getItem_list hl h0 hfit hx h) hs
theorem fdiv_fmod {a h q r : Int} (e : a = h * q + r) (h0 : 0 ≤ r) (h1 : r < h) : a.fdiv h = q ∧ a.fmod h = r := by
  subst e
  have hne : h ≠ 0 := by omega
  have hf : (h * q + r).fmod h = r := by
    rw [Int.fmod_eq_emod_of_nonneg _ (by omega), Int.mul_add_emod_self_left]
    exact Int.emod_eq_of_lt h0 h1
  refine ⟨?_, hf⟩
  have := Int.mul_fdiv_add_fmod (h * q + r) h
  rw [hf] at this
  exact Int.eq_of_mul_eq_mul_left hne (by omega)
theorem fdiv_fmod_neg {a h q r : Int} (e : a = h * q + r) (h0 : 0 ≤ r) (h1 : r < h) : (0 - a).fdiv (0 - h) = q ∧ (0 - a).fmod (0 - h) = 0 - r := by
  have k := fdiv_fmod e h0 h1
  rw [Int.zero_sub, Int.zero_sub, Int.neg_fdiv_neg, Int.neg_fmod_neg, k.1, k.2]
  exact ⟨rfl, by omega⟩
theorem spare_bnd {n h : Int} (p : 0 < h) : 0 ≤ n.fmod h ∧ n.fmod h < h := by
  rw [Int.fmod_eq_emod_of_nonneg _ (by omega)]
  exact ⟨Int.emod_nonneg _ (by omega), Int.emod_lt_of_pos _ p⟩
theorem less_form {T h w n : Int} (e : T = h * w) : T - (1 + n.fmod h) = h * (w - 1) + (h - 1 - n.fmod h) := by
  rw [e, Int.mul_sub, Int.mul_one]; omega
theorem div_eq {T h w n : Int} (e : T = h * w) (p : 0 < h) : [(T - (1 + n.fmod h)).fdiv h, (T - (1 + n.fmod h)).fmod h] = [w - 1, h - 1 - n.fmod h] := by
  have b := spare_bnd (n := n) p
  have k := fdiv_fmod (less_form (n := n) e) (by omega) (by omega)
  rw [k.1, k.2]
theorem div_eq_neg {T h w n : Int} (e : T = h * w) (p : 0 < h) : [(0 - (T - (1 + n.fmod h))).fdiv (0 - h), (0 - (T - (1 + n.fmod h))).fmod (0 - h)] = [w - 1, 1 + n.fmod h - h] := by
  have b := spare_bnd (n := n) p
  have k := fdiv_fmod_neg (less_form (n := n) e) (by omega) (by omega)
  rw [k.1, k.2]
  congr 2; omega
theorem sorted_eq {a b : List Int} (h : a.Perm b) (ha : a.Pairwise (· ≤ ·)) (hb : b.Pairwise (· ≤ ·)) : a = b :=
  List.Perm.eq_of_pairwise (le := (· ≤ ·)) (fun x y _ _ h1 h2 => Int.le_antisymm h1 h2) ha hb h
section
variable {prog : Program} {w : World} {A : Around} {E : Value → Shared → Prop} {s : Shared}
theorem ne_same {a b : Addr} {vs us : List Value} {ns ms : List Int} {Q : Value → Shared → Prop} (e : ns = ms) (hl : s.heap.IsList a vs.toArray) (hi : IntsAre vs ns) (hl' : s.heap.IsList b us.toArray) (hi' : IntsAre us ms) (hu : A.units + 64 < cLine)
    (h : Q (.bool false) s) : wpAny (model prog w) A (compareOp .NotEq (.ref a) (.ref b)) Q E s := by
  subst e
  exact ne_intsK hl hi hl' hi' hu (by simpa using h)
theorem eq_same {a b : Addr} {vs us : List Value} {ns ms : List Int} {Q : Value → Shared → Prop} (e : ns = ms) (hl : s.heap.IsList a vs.toArray) (hi : IntsAre vs ns) (hl' : s.heap.IsList b us.toArray) (hi' : IntsAre us ms) (hu : A.units + 64 < cLine)
    (h : Q (.bool true) s) : wpAny (model prog w) A (compareOp .Eq (.ref a) (.ref b)) Q E s := by
  subst e
  exact eq_intsK hl hi hl' hi' hu (by simpa using h)
theorem ne_two {a b : Addr} {x1 x2 y1 y2 : Int} {t1 t2 u1 u2 : Tok} {Q : Value → Shared → Prop} (e : [x1, x2] = [y1, y2]) (hl : s.heap.IsList a (List.toArray [.int x1 t1, .int x2 t2])) (hl' : s.heap.IsList b (List.toArray [.int y1 u1, .int y2 u2])) (hu : A.units + 64 < cLine)
    (h : Q (.bool false) s) : wpAny (model prog w) A (compareOp .NotEq (.ref a) (.ref b)) Q E s := ne_same e hl (.cons _ _ (.cons _ _ .nil)) hl' (.cons _ _ (.cons _ _ .nil)) hu h
theorem eq_two {a b : Addr} {x1 x2 y1 y2 : Int} {t1 t2 u1 u2 : Tok} {Q : Value → Shared → Prop} (e : [x1, x2] = [y1, y2]) (hl : s.heap.IsList a (List.toArray [.int x1 t1, .int x2 t2])) (hl' : s.heap.IsList b (List.toArray [.int y1 u1, .int y2 u2])) (hu : A.units + 64 < cLine)
    (h : Q (.bool true) s) : wpAny (model prog w) A (compareOp .Eq (.ref a) (.ref b)) Q E s := eq_same e hl (.cons _ _ (.cons _ _ .nil)) hl' (.cons _ _ (.cons _ _ .nil)) hu h
theorem ne_pair_nil {t r c u d e : Addr} {k j : Nat} {vr vc : List Value} {xs ys : List Int} {Q : Value → Shared → Prop} (hx : xs = []) (hy : ys = []) (ht : s.heap.get? t = some { cls := .type "tuple", data := .seq #[.ref r, .ref c] k }) (hr : s.heap.IsList r vr.toArray) (ir : IntsAre vr xs) (hc : s.heap.IsList c vc.toArray) (ic : IntsAre vc ys)
    (hu : s.heap.get? u = some { cls := .type "tuple", data := .seq #[.ref d, .ref e] j }) (hd : s.heap.IsList d (List.toArray [])) (he : s.heap.IsList e (List.toArray [])) (hun : A.units + 64 < cLine)
    (h : Q (.bool false) s) : wpAny (model prog w) A (compareOp .NotEq (.ref t) (.ref u)) Q E s := by
  subst hx hy
  exact ne_pairK ht hr ir hc ic hu hd .nil he .nil hun (by simpa using h)
end
theorem three_bnd (x : Int) : 0 ≤ x.fmod 3 ∧ x.fmod 3 ≤ 2 := by
  rw [Int.fmod_eq_emod_of_nonneg _ (by decide)]; omega
section
local macro_rules | `(tactic| walk_at "ElPost") => `(tactic| (k_dflt (refine elp (by rfl) ?_); first | exact kept_trans (by assumption) (by assumption) | assumption | exact kept_refl))
local macro_rules | `(tactic| walk_at "TestPost") => `(tactic| (k_dflt (refine testp (by rfl) ?_); first | exact kept_trans (by assumption) (by assumption) | assumption | exact kept_refl))
local macro_rules | `(tactic| walk_at "subscriptTail Name Constant ref int") => `(tactic| ((with_reducible show wpAny _ _ (subscriptTail _ _ (Value.ref _) (Value.int _ _)) _ _ _); k_dflt (refine' item_lit (x := Value.int _ _) ?l ?a ?b ?x ?_ ?s; (case l => is_list); (case a => decide); (case b => decide); (case x => exact rfl); (case s => with_unfolding_all rfl)); (try dsimp only)))
local macro_rules | `(tactic| walk_at "pyIter ref") => `(tactic| k_extra "M.iter")
local macro_rules | `(tactic| walk_at "eval ListComp") => `(tactic| k_extra "M.comp")
local macro_rules | `(tactic| walk_at "exec Assign cons ListComp") => `(tactic| k_extra "M.assign")
local macro_rules | `(tactic| walk_at "call builtin:sorted") => `(tactic| k_extra "M.sorted")
local macro_rules | `(tactic| walk_at "compareOp NotEq ref ref") => `(tactic| k_extra "M.ne")
local macro_rules | `(tactic| walk_at "compareOp Eq ref ref") => `(tactic| k_extra "M.eq")
local macro_rules | `(tactic| walk_at "call ref") => `(tactic| k_extra "M.call")
local macro_rules | `(tactic| walk_at "subscriptTail Name Slice ref ref") => `(tactic| ((with_reducible show wpAny _ _ (subscriptTail _ (PySem.Expr.Slice _ _ none _) (Value.ref _) (Value.ref _)) _ _ _); k_dflt (refine' slice_z ?F ?N ?l ?p ?q ?i ?m ?_ ?s ?t ?z; (case F => k_asm); (case N => k_asm); (case l => is_list); (case p => kmk_part); (case q => kmk_part); (case i => with_reducible assumption); (case m => first | with_reducible exact kmk_all (by with_reducible assumption) | (with_reducible refine kmk_from (by with_reducible assumption) ?_; omega) | (with_reducible refine kmk_upto (by with_reducible assumption) ?_; omega)); (case s => with_unfolding_all rfl); (case t => kmk_pure); (case z => omega)); intro D' ws' h' F' N' l1 nD' kD' hI'; (have lk9 := l1); (try k_lt l1)))
local macro_rules | `(tactic| walk_at "call ref") => `(tactic| (k_here; (with_reducible show wpAny _ _ (call (Value.ref 28) [Value.int _ _, Value.int _ _]) _ _ _); k_dflt (refine' add_c ?u1 ?u2 ?u3 ?u4 ?u5 ?r1 ?_; (case u1 => k_asm); (case u2 => k_asm); (case u3 => k_asm); (case u4 => k_asm); (case u5 => first | exact rfl | assumption); (case r1 => ktr_room); k_whole; intro t9 h9 tk9 F9 G9; (have N9 := kept_news (by assumption) G9); (try dsimp only); (try k_fold))))
local macro_rules | `(tactic| walk_at "call ref") => `(tactic| (k_here; (with_reducible show wpAny _ _ (call (Value.ref 56) [Value.int _ _, Value.int _ _]) _ _ _); k_dflt (refine' sub_c ?u1 ?u2 ?u3 ?u4 ?u5 ?r1 ?_; (case u1 => k_asm); (case u2 => k_asm); (case u3 => k_asm); (case u4 => k_asm); (case u5 => first | exact rfl | assumption); (case r1 => ktr_room); k_whole; intro t9 h9 tk9 F9 G9; (have N9 := kept_news (by assumption) G9); (try dsimp only); (try k_fold))))
local macro_rules | `(tactic| walk_at "call ref") => `(tactic| (k_here; (with_reducible show wpAny _ _ (call (Value.ref 35) [Value.int _ _, Value.int _ _]) _ _ _); k_dflt (refine' floordiv_c ?u1 ?u2 ?u3 ?u4 ?u5 ?c1 ?c2 ?r1 ?_; (case u1 => k_asm); (case u2 => k_asm); (case u3 => k_asm); (case u4 => k_asm); (case u5 => first | exact rfl | assumption); (case c1 => omega); (case c2 => (exact PyProof.noPylong_small (by omega))); (case r1 => ktr_room); k_whole; intro t9 h9 tk9 F9 G9; (have N9 := kept_news (by assumption) G9); (try dsimp only); (try k_fold))))
local macro_rules | `(tactic| walk_at "call ref") => `(tactic| (k_here; (with_reducible show wpAny _ _ (call (Value.ref 42) [Value.int _ _, Value.int _ _]) _ _ _); k_dflt (refine' mod_c ?u1 ?u2 ?u3 ?u4 ?u5 ?c1 ?r1 ?_; (case u1 => k_asm); (case u2 => k_asm); (case u3 => k_asm); (case u4 => k_asm); (case u5 => first | exact rfl | assumption); (case c1 => omega); (case r1 => ktr_room); k_whole; intro t9 h9 tk9 F9 G9; (have N9 := kept_news (by assumption) G9); (try dsimp only); (try k_fold))))

theorem law_holds : PySem.Challenge.rw_tr0001_01.Holds := hd (by
  k_go0
  (all_goals try k_fold)
  rename Shared => sG
  k_with_none
  k_with "M.call" =>
    (with_reducible show wpAny _ _ (call (Value.ref 63) [Value.ref _]) _ _ _)
    rename News _ _ _ _ => N9
    rename Fr _ _ _ _ => F9
    k_dflt (refine' cells_c ?u1C ?u2C ?u3C ?u4C ?u5C ?hlC ?hiC ?lenC ?dpC ?huC ?_)
    k_dflt (case u1C => k_asm)
    k_dflt (case u2C => k_asm)
    k_dflt (case u3C => k_asm)
    k_dflt (case u4C => k_asm)
    k_dflt (case u5C => exact rfl)
    k_dflt (case hlC => is_list)
    k_dflt (case hiC => with_reducible assumption)
    k_dflt (case lenC => omega)
    k_dflt (case dpC => ktr_room)
    k_dflt (case huC => ktr_units)
    intro rC vrC nrC hC tkC FC GC getC iC frC
    k_dflt (have NC := news_cons F9 (kept_news N9 GC) getC frC)
    k_dflt (obtain ⟨c0, c1, c2, c3, eC⟩ := four (cellsP_len _ _))
    k_dflt (rw [eC] at iC)
    k_dflt (obtain ⟨tC0, tC1, tC2, tC3, rfl⟩ := ints4 iC)
    k_dflt (have hb3 : intBits c3 ≤ 1100000 := Nat.le_trans (cells_bits (by with_reducible assumption) _ c3 (by rw [eC]; simp)) (by omega))
    k_dflt (have bC0 := three_bnd c0)
    k_dflt (have bC1 := three_bnd c1)
    k_dflt (have bC2 := three_bnd c2)
    (try dsimp only)
    (try k_fold)
  k_with "M.assign" =>
    (with_reducible show wpAny _ _ (exec (Stmt.Assign [Expr.Name (Str.ofString "side") _] _ _) _) _ _ _)
    k_dflt (have P := law_plain (n := c3) (lo := c0.fmod 3) (md := c0.fmod 3 + c1.fmod 3) (hi := c0.fmod 3 + c1.fmod 3 + c2.fmod 3) bC0.1 bC0.2 (by omega) (by omega) (by omega) (by omega))
    k_dflt (have SB := shape_bnd (lo := c0.fmod 3) (md := c0.fmod 3 + c1.fmod 3) (hi := c0.fmod 3 + c1.fmod 3 + c2.fmod 3) bC0.1 bC0.2 (by omega) (by omega) (by omega) (by omega))
    k_dflt (obtain ⟨rows, cols, p1, p2, pP, p3, p4, p5, p6, p7, p8, p9, pA⟩ := P)
    rename News _ _ _ _ => nY9
    rename Fr _ _ _ _ => fY9
    (try simp only [List.cons_append, List.nil_append] at nY9)
    k_dflt (refine' comp_assignK (kx := Str.ofString "column") (zs := sideF [c0.fmod 3 + c1.fmod 3 + c2.fmod 3, c0.fmod 3 + c1.fmod 3, c0.fmod 3]) fY9 nY9 rfl ?sw9G ?clos9G ?cell9G ?push9G ?kind9G ?names9G ?loc9G ?pp9G ?fold9G ?run9G ?fin9G)
    k_dflt (case sw9G => with_unfolding_all rfl)
    k_dflt (case clos9G => with_unfolding_all rfl)
    k_dflt (case cell9G => intro n; rfl)
    k_dflt (case push9G => intro h; rfl)
    k_dflt (case kind9G => rfl)
    k_dflt (case names9G => decide)
    k_dflt (case loc9G => rfl)
    k_dflt (case pp9G => rfl)
    k_dflt (case fold9G => intro _; rfl)
    rotate_left
    k_dflt (intro DS hS tkS vsS FS NS lS iS)
    (try k_lt lS)
    rotate_right
    all_goals (try unfold CompRunK)
    all_goals (try dsimp only)
    all_goals (try k_fold)
  k_with "M.iter" =>
    rename IsRange _ _ _ _ _ _ _ _ => rS9
    rename News _ _ _ _ => nS9
    rename Fr _ _ _ _ => fS9
    k_dflt (refine' tail_range_cell (s := { sG with heap := _ }) (n := ([c0.fmod 3 + c1.fmod 3 + c2.fmod 3, c0.fmod 3 + c1.fmod 3, c0.fmod 3].getD 0 0).toNat) (sideC [c0.fmod 3 + c1.fmod 3 + c2.fmod 3, c0.fmod 3 + c1.fmod 3, c0.fmod 3]) rfl rS9 ?sm9S ?rn9S ?len9S ?f9S ?n9S (fun _ _ => rfl) rfl ?k9S ?turn9S)
    k_dflt (case sm9S => exact small_one (by omega) (by omega) (by omega) (by omega))
    k_dflt (case rn9S => (rw [rangeSize_nat, Int.sub_zero]; rfl))
    k_dflt (case len9S => (show (c0.fmod 3 + c1.fmod 3 + c2.fmod 3).toNat ≤ 1000; omega))
    k_dflt (case f9S => with_reducible assumption)
    k_dflt (case n9S => with_reducible assumption)
    k_dflt (case k9S => with_reducible assumption)
    intro i9S hh9 tk9 C9 D9 K9 oC9 oK9 m9 ys9 t9 E9 hi9S hO9 hd9 FF9 NN9 kk9
    (try k_fold)
  k_with "M.comp" =>
    (with_reducible show wpAny _ _ (eval (Expr.ListComp (Expr.Name (Str.ofString "size") _) _ _ _) _) _ _ _)
    k_dflt (refine' comp_exprG (zs := [c0.fmod 3 + c1.fmod 3 + c2.fmod 3, c0.fmod 3 + c1.fmod 3, c0.fmod 3].filter fun o => decide (o > 0 + (i9S : Int))) FF9 NN9 ?clos9Z ?cell9Z ?kind9Z ?names9Z ?fold9Z ?run9Z ?fin9Z)
    k_dflt (case clos9Z => with_unfolding_all rfl)
    k_dflt (case cell9Z => decide)
    k_dflt (case kind9Z => rfl)
    k_dflt (case names9Z => decide)
    k_dflt (case fold9Z => intro _; rfl)
    rotate_left
    intro DZ hZ tkZ vsZ FZ NZ lZ nDZ iZ kZ
    k_dflt (have gZ : GSub hh9 hZ [] := fun b o e _ => kZ b o e)
    (try k_lt lZ)
    rotate_right
    all_goals (try unfold CompRunG)
    all_goals (try dsimp only)
    all_goals (try k_fold)
  k_with "M.iter" =>
    rename News _ _ _ _ => nF9
    rename Fr _ _ _ _ => fF9
    k_dflt (refine' tail_filter (s := { sG with heap := _ }) (fun o => decide (o > 0 + (i9S : Int))) ?l9F ints_shape ?len9F rfl ?f9F ?n9F (fun _ => rfl) rfl (by decide) ?k9F ?turn9F)
    k_dflt (case l9F => is_list)
    k_dflt (case len9F => exact (by decide : 3 ≤ 1000))
    k_dflt (case f9F => with_reducible assumption)
    k_dflt (case n9F => with_reducible assumption)
    k_dflt (case k9F => first | with_reducible assumption | exact fun b o e => e)
    intro z9 hh9 tk9 C9 D9 oC9 m9 u9 ys9 E9 hz9 hO9 hx9 FF9 NN9 kk9
    (try k_fold)
  k_with "M.call" =>
    (with_reducible show wpAny _ _ (call (Value.ref 75) [Value.ref _, Value.int _ _]) _ _ _)
    rename News _ _ _ _ => nT9
    rename Fr _ _ _ _ => fT9
    k_dflt (refine' told_s (ns := (sideF [c0.fmod 3 + c1.fmod 3 + c2.fmod 3, c0.fmod 3 + c1.fmod 3, c0.fmod 3])) p2 rfl (frames_law fT9 rfl rfl) fT9.keep ?xTS ?tTS ?lTS iS ?nTS ?zTS ?dTS ?uTS ?_)
    k_dflt (case xTS => k_asm)
    k_dflt (case tTS => k_asm)
    k_dflt (case lTS => is_list)
    k_dflt (case nTS => exact (side_bnd (ns := [c0.fmod 3 + c1.fmod 3 + c2.fmod 3, c0.fmod 3 + c1.fmod 3, c0.fmod 3]) (Nat.le_of_ble_eq_true rfl) SB).1)
    k_dflt (case zTS => exact (side_bnd (ns := [c0.fmod 3 + c1.fmod 3 + c2.fmod 3, c0.fmod 3 + c1.fmod 3, c0.fmod 3]) (Nat.le_of_ble_eq_true rfl) SB).2)
    k_dflt (case dTS => ktr_room)
    k_dflt (case uTS => ktr_units)
    intro rTS vrTS hTS tkTS UTS gTS iTS fTS
    k_dflt (have FTS := law_fr fT9 UTS rfl (fun b hb => nomatch hb))
    k_dflt (have NTS := news_cons fT9 (law_news nT9 UTS rfl (fun p hp hq => nomatch hq)) gTS fTS)
    (try dsimp only)
    (try k_fold)
  k_with "M.call" =>
    (with_reducible show wpAny _ _ (call (Value.ref 75) [Value.ref _, Value.int _ _]) _ _ _)
    rename News _ _ _ _ => nT9
    rename Fr _ _ _ _ => fT9
    k_dflt (refine' told_s (ns := ([c0.fmod 3 + c1.fmod 3 + c2.fmod 3, c0.fmod 3 + c1.fmod 3, c0.fmod 3])) p1 rfl (frames_law fT9 rfl rfl) fT9.keep ?xTR ?tTR ?lTR ints_shape ?nTR ?zTR ?dTR ?uTR ?_)
    k_dflt (case xTR => k_asm)
    k_dflt (case tTR => k_asm)
    k_dflt (case lTR => is_list)
    k_dflt (case nTR => exact (by decide : 3 ≤ 6))
    k_dflt (case zTR => exact SB)
    k_dflt (case dTR => ktr_room)
    k_dflt (case uTR => ktr_units)
    intro rTR vrTR hTR tkTR UTR gTR iTR fTR
    k_dflt (have FTR := law_fr fT9 UTR rfl (fun b hb => nomatch hb))
    k_dflt (have NTR := news_cons fT9 (law_news nT9 UTR rfl (fun p hp hq => nomatch hq)) gTR fTR)
    (try dsimp only)
    (try k_fold)
  k_with "M.call" =>
    (with_reducible show wpAny _ _ (call (Value.ref 80) [Value.ref _]) _ _ _)
    rename News _ _ _ _ => nH9
    rename Fr _ _ _ _ => fH9
    k_dflt (refine' hooks_c ?u1H ?u2H ?u3H ?u4H ?u5H ?lH ints_shape ?nH ?zH ?dH ?uH ?_)
    k_dflt (case u1H => k_asm)
    k_dflt (case u2H => k_asm)
    k_dflt (case u3H => k_asm)
    k_dflt (case u4H => k_asm)
    k_dflt (case u5H => exact rfl)
    k_dflt (case lH => is_list)
    k_dflt (case nH => exact (by decide : 3 ≤ 6))
    k_dflt (case zH => exact SB)
    k_dflt (case dH => ktr_room)
    k_dflt (case uH => ktr_units)
    intro rH vrH nrH hH tkH FH GH getH iH frH
    k_dflt (have NH := news_cons fH9 (kept_news nH9 GH) getH frH)
    (try dsimp only)
    (try k_fold)
  k_with "M.sorted" =>
    rename News _ _ _ _ => nA9
    rename Fr _ _ _ _ => fA9
    k_dflt (refine' kso_sorted fA9 nA9 ?lSA iTR ?nSA ?_)
    k_dflt (case lSA => is_list)
    k_dflt (case nSA => omega)
    intro DA vA nA cA hA FA NA lA iA eA qA oA bA
    (try k_lt lA)
  k_with "M.sorted" =>
    rename News _ _ _ _ => nB9
    rename Fr _ _ _ _ => fB9
    k_dflt (refine' kso_sorted fB9 nB9 ?lSB iH ?nSB ?_)
    k_dflt (case lSB => is_list)
    k_dflt (case nSB => (have := pP.length_eq; show (hooksP _ 3).length < 64; omega))
    intro DB vB nB cB hB FB NB lB iB eB qB oB bB
    k_dflt (have eAB : nA = nB := sorted_eq (qA.trans (pP.trans qB.symm)) oA oB)
    (try k_lt lB)
  k_with "M.ne" =>
    k_dflt (refine' ne_same eAB ?lCA iA ?lCB iB ?uCA ?_)
    k_dflt (case lCA => is_list)
    k_dflt (case lCB => is_list)
    k_dflt (case uCA => ktr_units)
  k_with "M.call" =>
    (with_reducible show wpAny _ _ (call (Value.ref 21) [Value.ref _, Value.ref _]) _ _ _)
    rename News _ _ _ _ => nU9
    rename Fr _ _ _ _ => fU9
    k_dflt (refine' uld_u (frames_law fU9 rfl rfl) fU9.keep ?xU ?tU ?eU ?cU ?neU ?beU ?bcU ?hxU ?hyU ?lxU ?lyU ?dU ?_)
    k_dflt (case xU => k_asm)
    k_dflt (case tU => k_asm)
    k_dflt (case eU => exact (nU9 (_, W.listOf (List.toArray _) _) (by k_mem)).1)
    k_dflt (case cU => exact (nU9 (_, W.listOf (List.toArray _) _) (by k_mem)).1)
    k_dflt (case neU => exact lt_ne (by with_reducible assumption))
    k_dflt (case beU => exact (nU9 (_, W.listOf (List.toArray _) _) (by k_mem)).2.2)
    k_dflt (case bcU => exact (nU9 (_, W.listOf (List.toArray _) _) (by k_mem)).2.2)
    k_dflt (case hxU => with_reducible assumption)
    k_dflt (case hyU => with_reducible assumption)
    k_dflt (case lxU => omega)
    k_dflt (case lyU => omega)
    k_dflt (case dU => ktr_room)
    intro tU rU vrU vcU nrU neU' ncU hU tkU UU htU hrU irU hcU icU heU ftU frU trU
    k_dflt (obtain ⟨FU, NU⟩ := law_uld fU9 nU9 UU rfl (by with_reducible assumption) (by with_reducible assumption) htU hrU hcU heU ftU frU)
    (try dsimp only)
    (try k_fold)
  k_with "M.ne" =>
    rename News _ _ _ _ => nV9
    k_dflt (refine' ne_pair_nil p3 p4 ?tV ?rV irU ?cV icU ?uV ?dV ?eV ?unV ?_)
    k_dflt (case tV => exact (nV9 (_, { cls := .type "tuple", data := .seq #[.ref _, .ref _] _ }) (by k_mem)).1)
    k_dflt (case rV => is_list)
    k_dflt (case cV => is_list)
    k_dflt (case uV => exact (nV9 (_, { cls := .type "tuple", data := .seq #[.ref _, .ref _] _ }) (by k_mem)).1)
    k_dflt (case dV => is_list)
    k_dflt (case eV => is_list)
    k_dflt (case unV => ktr_units)
  k_with "M.assign" =>
    (with_reducible show wpAny _ _ (exec (Stmt.Assign [Expr.Name (Str.ofString "cellwise") _] _ _) _) _ _ _)
    rename News _ _ _ _ => nW9
    rename Fr _ _ _ _ => fW9
    rename Heap => hX9
    k_dflt (have := (fW9 : Fr _ _ hX9 _))
    k_dflt (refine' comp_assign (zs := cellW c3 [c0.fmod 3 + c1.fmod 3 + c2.fmod 3, c0.fmod 3 + c1.fmod 3, c0.fmod 3]) fW9 nW9 rfl ?sw9W ?clos9W ?cell9W ?kind9W ?names9W ?loc9W ?pp9W ?fold9W ?run9W ?fin9W)
    k_dflt (case sw9W => with_unfolding_all rfl)
    k_dflt (case clos9W => with_unfolding_all rfl)
    k_dflt (case cell9W => decide)
    k_dflt (case kind9W => rfl)
    k_dflt (case names9W => decide)
    k_dflt (case loc9W => rfl)
    k_dflt (case pp9W => rfl)
    k_dflt (case fold9W => intro _; rfl)
    rotate_left
    intro DW hW tkW vsW FW NW lW iW
    (try k_lt lW)
    rotate_right
    all_goals (try unfold CompRun)
    all_goals (try k_fold)
  k_with "M.iter" =>
    rename IsRange _ _ _ _ _ _ _ _ => rG9
    rename Fr _ _ _ _ => fV9
    rename News _ _ _ _ => nV9
    k_dflt (refine' tail2_range (n := 3) (s := { sG with heap := hX9 }) (cellR c3 [c0.fmod 3 + c1.fmod 3 + c2.fmod 3, c0.fmod 3 + c1.fmod 3, c0.fmod 3]) rG9 ?sm9V ?rn9V ?len9V rfl ?f9V ?n9V (fun _ => rfl) rfl (fun _ _ => rfl) ?k9V ?turn9V)
    k_dflt (case sm9V => decide)
    k_dflt (case rn9V => exact rs_len 3)
    k_dflt (case len9V => exact Nat.le_trans (cell_len (n := c3) (ns := [c0.fmod 3 + c1.fmod 3 + c2.fmod 3, c0.fmod 3 + c1.fmod 3, c0.fmod 3]) (by show (c0.fmod 3 + c1.fmod 3 + c2.fmod 3).toNat + (c0.fmod 3 + c1.fmod 3).toNat + (c0.fmod 3).toNat ≤ 12; omega)) (by decide))
    k_dflt (case f9V => with_reducible assumption)
    k_dflt (case n9V => with_reducible assumption)
    k_dflt (case k9V => first | with_reducible assumption | exact fun b o e => e)
    intro iG9 hh9 tk9 C9 D9 oC9 m9 u9 ys9 E9 hz9 hO9 hx9 FF9 NN9 kk9
    k_dflt (have hCg9 := (NN9 _ List.mem_cons_self).1)
    k_dflt (have hDg9 := (NN9 _ (List.mem_cons_of_mem _ List.mem_cons_self)).1)
    k_dflt (have bG9 := getD_bnd (i := iG9) SB)
    k_dflt (have bH9 : 0 ≤ ([c0.fmod 3 + c1.fmod 3 + c2.fmod 3, c0.fmod 3 + c1.fmod 3, c0.fmod 3]).getD (Int.toNat (iG9 : Int)) 0 ∧ ([c0.fmod 3 + c1.fmod 3 + c2.fmod 3, c0.fmod 3 + c1.fmod 3, c0.fmod 3]).getD (Int.toNat (iG9 : Int)) 0 ≤ 6 := bG9)
    (try k_fold)
  k_with "M.iter" =>
    rename IsRange _ _ _ _ _ _ _ _ => rJ9
    k_dflt (refine' inner_range (n := ([c0.fmod 3 + c1.fmod 3 + c2.fmod 3, c0.fmod 3 + c1.fmod 3, c0.fmod 3].getD iG9 0).toNat) (fun z => c3 + (z - (iG9 : Int))) rfl rJ9 ?sm9J ?rn9J ?n59J ?k9J hCg9 hDg9 rfl rfl rfl ?el9J)
    k_dflt (case sm9J => exact small_one (by omega) (by omega) (by omega) (by omega))
    k_dflt (case rn9J => (rw [rangeSize_nat, Int.sub_zero]; rfl))
    k_dflt (case n59J => omega)
    k_dflt (case k9J => first | with_reducible assumption | exact fun b o e => e)
    intro z8 h8 tk8 oC8 m8 ys8 tj8 E8 hlo8 hhi8 hO8 hx8 hm8 FF8 NN8 kk8
    k_dflt (have hr8 := (hm8 (Str.ofString "row") (by decide)).trans hx9)
    (try k_fold)
  k_with "M.call" =>
    (with_reducible show wpAny _ _ (call (Value.ref 87) [Value.ref _]) _ _ _)
    rename News _ _ _ _ => nM9
    rename Fr _ _ _ _ => fM9
    k_dflt (refine' multiplied_c (ns := (cellW c3 [c0.fmod 3 + c1.fmod 3 + c2.fmod 3, c0.fmod 3 + c1.fmod 3, c0.fmod 3])) ?u1MC ?u2MC ?u3MC ?u4MC ?u5MC ?lMC iW ?nMC ?kMC ?dMC ?_)
    k_dflt (case u1MC => k_asm)
    k_dflt (case u2MC => k_asm)
    k_dflt (case u3MC => k_asm)
    k_dflt (case u4MC => k_asm)
    k_dflt (case u5MC => exact rfl)
    k_dflt (case lMC => is_list)
    k_dflt (case nMC => exact Nat.lt_of_le_of_lt (cell_len (n := c3) (ns := [c0.fmod 3 + c1.fmod 3 + c2.fmod 3, c0.fmod 3 + c1.fmod 3, c0.fmod 3]) (by show (c0.fmod 3 + c1.fmod 3 + c2.fmod 3).toNat + (c0.fmod 3 + c1.fmod 3).toNat + (c0.fmod 3).toNat ≤ 12; omega)) (by decide))
    k_dflt (case kMC => exact hok_bits 1100001 (fun x hx => cell_bits hb3 (Nat.le_of_ble_eq_true rfl) SB hx) (cell_len (n := c3) (ns := [c0.fmod 3 + c1.fmod 3 + c2.fmod 3, c0.fmod 3 + c1.fmod 3, c0.fmod 3]) (by show (c0.fmod 3 + c1.fmod 3 + c2.fmod 3).toNat + (c0.fmod 3 + c1.fmod 3).toNat + (c0.fmod 3).toNat ≤ 12; omega)) (by decide))
    k_dflt (case dMC => ktr_room)
    intro tMC hMC tkMC FMC GMC
    k_dflt (have NMC := kept_news nM9 GMC)
    (try dsimp only)
    (try k_fold)
  k_with "M.call" =>
    (with_reducible show wpAny _ _ (call (Value.ref 87) [Value.ref _]) _ _ _)
    rename News _ _ _ _ => nM9
    rename Fr _ _ _ _ => fM9
    k_dflt (refine' multiplied_c (ns := rows) ?u1MR ?u2MR ?u3MR ?u4MR ?u5MR ?lMR iTR ?nMR ?kMR ?dMR ?_)
    k_dflt (case u1MR => k_asm)
    k_dflt (case u2MR => k_asm)
    k_dflt (case u3MR => k_asm)
    k_dflt (case u4MR => k_asm)
    k_dflt (case u5MR => exact rfl)
    k_dflt (case lMR => is_list)
    k_dflt (case nMR => omega)
    k_dflt (case kMR => exact hok_small p7 p5)
    k_dflt (case dMR => ktr_room)
    intro tMR hMR tkMR FMR GMR
    k_dflt (have NMR := kept_news nM9 GMR)
    (try dsimp only)
    (try k_fold)
  k_with "M.call" =>
    (with_reducible show wpAny _ _ (call (Value.ref 99) [Value.ref _, Value.int _ _]) _ _ _)
    rename News _ _ _ _ => nD9
    rename Fr _ _ _ _ => fD9
    k_dflt (refine' determinant_c (x := c0.fmod 3 + c1.fmod 3 + c2.fmod 3) (y := c0.fmod 3 + c1.fmod 3) (z := c0.fmod 3) (n := c3) ?u1D ?u2D ?u3D ?u4D ?u5D ?lD hb3 ?xD ?yD ?zD ?dD ?uD ?_)
    k_dflt (case u1D => k_asm)
    k_dflt (case u2D => k_asm)
    k_dflt (case u3D => k_asm)
    k_dflt (case u4D => k_asm)
    k_dflt (case u5D => exact rfl)
    k_dflt (case lD => is_list)
    k_dflt (case xD => omega)
    k_dflt (case yD => omega)
    k_dflt (case zD => omega)
    k_dflt (case dD => ktr_room)
    k_dflt (case uD => ktr_units)
    intro tDt hDt tkDt FDt GDt
    k_dflt (have NDt := kept_news nD9 GDt)
    (try dsimp only)
    (try k_fold)
  k_with "M.ne" =>
    k_dflt (refine' ne_two ?eX ?lX ?mX ?uX ?_)
    k_dflt (case lX => is_list)
    k_dflt (case mX => is_list)
    k_dflt (case uX => ktr_units)
    k_dflt (case eX => exact div_eq pA p8)
  k_with "M.eq" =>
    k_dflt (refine' eq_two ?eY ?lY ?mY ?uY ?_)
    k_dflt (case lY => is_list)
    k_dflt (case mY => is_list)
    k_dflt (case uY => ktr_units)
    k_dflt (case eY => exact div_eq_neg pA p8)
  k_with "call builtin:len" =>
    k_dflt (refine len_z (by is_list) (by with_reducible assumption) ?_ ?_)
    k_dflt (refine Nat.le_trans (List.length_filter_le ..) (by decide : 3 ≤ 1000))
  k_steps)
end
end Mine
end
set_option maxRecDepth 100000 in
set_option maxHeartbeats 8000000 in
theorem PySem.Challenge.cw_tr0001_01_holds : PySem.Challenge.rw_tr0001_01.Holds :=
  Mine.law_holds
