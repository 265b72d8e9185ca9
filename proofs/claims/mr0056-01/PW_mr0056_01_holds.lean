import PyProof.Rows.All
import Wide.All
import OpenK.AllK
import Wide.FinOn
import PySem.Challenge.RW_mr0056_01
set_option Elab.async false
set_option maxRecDepth 100000
set_option maxHeartbeats 8000000
set_option compiler.extract_closed false
open PySem PySem.W PyProof.Rows
namespace Mine
open_top hd for PySem.Challenge.rw_mr0056_01
end Mine
namespace Mine
section
open PySem PySem.W PyProof.Rows PySem.Calls

abbrev PR : Program := PySem.Challenge.rw_mr0056_01.row.prog

/-- what every call needs -/
structure Ok (w : World) (loose : List Str) (mean : ExcName → Option Value) (mg mb : Str → Option Value) (h : Heap) : Prop where
  X : (hd.heap_39 w.params).In h
  T : Top topProg loose mean mg mb h
  C : CodeHd h 104 100

theorem Ok.keeps {w : World} {loose : List Str} {mean : ExcName → Option Value} {mg mb : Str → Option Value} {h h' : Heap} (o : Ok w loose mean mg mb h)
    (k : ∀ b o, h.get? b = some o → h'.get? b = some o) : Ok w loose mean mg mb h' := ⟨o.X.keeps k, o.T.keeps k, o.C.keeps k⟩

theorem Around_deeper_depth (A : Around) (env : Env) : (A.deeper env).depth = A.depth + 1 := rfl
theorem Around_deeper_units (A : Around) (env : Env) : (A.deeper env).units = A.units + 3 := rfl
theorem Around_deeper_handled (A : Around) (env : Env) : (A.deeper env).handled = A.handled := rfl

section
variable {w : World} {prog : Program} {A : Around} {s : Shared} {R : Result → Shared → Prop} {name qual : Str} {params : Arguments} {body : List Stmt} {scope : Scope} {cl : List (Str × Addr)} {dV kV doc pm cdv ct : Value} {an : Option Addr} {fo : Obj} {f : Addr} {args : Args} {binds : List (Str × Value)}
/-- a def is entered: the objects of muts may be written, all others stay -/
theorem enter {muts : List (Addr × Obj)} (hm : ∀ p ∈ muts, s.heap.get? p.1 = some p.2) (hlim : s.heap.NoLimit)
    (ho : s.heap.get? f = some fo) (hd : fo.data = .func (fnX name qual params body scope cl dV kV doc pm an cdv ct)) (hcd : s.heap.CodeRec cdv qual) (hroom : A.depth < recursionLimit)
    (hbind : BindsTo s (fnX name qual params body scope cl dV kV doc pm an cdv ct) args binds) (hloc : ∀ y ∈ binds, scope.names.lookup y.1 = some .local)
    (h : ∀ L' h₁, Fr (hideAll s.heap (muts.map (·.1))) L' h₁ (fun y => binds.reverse.lookup y) → News (hideAll s.heap (muts.map (·.1))) L' h₁ muts → (∀ p ∈ muts, p.1 < L') →
      wpAny (model prog w) (A.deeper (envX qual scope L' f cdv cl)) (execs body (envX qual scope L' f cdv cl))
        (fun fl s' => R (.ok (.ret (match fl with | .ret v => v | _ => .none))) s')
        (fun _ _ => False)
        { s with heap := h₁, toks := s.toks + binds.length })
    (hcell : ∀ x ∈ scope.names, x.2 ≠ .cell) (hco : scope.isCoroutine = false := by rfl) (hgen : scope.isGenerator = false := by rfl) (hk : scope.kind = .function := by rfl) : codeAny (model prog w) A (.call (.ref f) args) R s := by
  refine codeAny_call_def (fd := fnX name qual params body scope cl dV kV doc pm an cdv ct) (body := body) (binds := binds) hroom ho hd hlim hcd rfl hbind hcell hloc (fun h₁ hns hk₁ => ?_) hco hgen hk
  exact wpAny_mono (h s.heap.objs.size h₁ ⟨hns, fun b o e => hk₁ b o (of_hideAll _ e), Nat.le_of_eq (hideAll_size _ _)⟩
    (fun p hp => ⟨hk₁ _ _ (hm p hp), Nat.ne_of_lt (Heap.lt_size (hm p hp)), hideAll_none _ (List.mem_map_of_mem hp)⟩) (fun p hp => Heap.lt_size (hm p hp))) (fun fl s' hl => hl) fun _ _ y => y.elim
end
section
variable {w : World} {loose : List Str} {mean : ExcName → Option Value} {mg mb : Str → Option Value} {A : Around} {s : Shared} {R : Result → Shared → Prop} {name qual : Str} {params : Arguments} {body : List Stmt} {scope : Scope} {dV kV doc pm cdv ct oc : Value} {an od : Option Addr} {osl : Array (Option Value)} {f : Addr} {args : Args} {binds : List (Str × Value)}
theorem enterK {K : Frag} {p : Program} (X : K.In s.heap) (T : Top p loose mean mg mb s.heap) (C : CodeHd s.heap 104 100)
    (ho : K.lookup f = some ⟨oc, od, .func (fnOf name qual params body scope dV kV doc pm an cdv ct), osl⟩) (hcd : codeIn K cdv qual = true) (hroom : A.depth < recursionLimit)
    (hbind : BindsTo s (fnOf name qual params body scope dV kV doc pm an cdv ct) args binds) (hloc : ∀ y ∈ binds, scope.names.lookup y.1 = some .local)
    (h : ∀ g L' h₁, (∀ b o, s.heap.get? b = some o → g.get? b = some o) → g.objs.size = s.heap.objs.size → K.In g → Top p loose mean mg mb g → CodeHd g 104 100 → Fr g L' h₁ (fun y => binds.reverse.lookup y) → News g L' h₁ [] →
      wpAny (model PR w) (A.deeper (envX qual scope L' f cdv [])) (execs body (envX qual scope L' f cdv []))
        (fun fl s' => R (.ok (.ret (match fl with | .ret v => v | _ => .none))) s')
        (fun _ _ => False)
        { s with heap := h₁, toks := s.toks + binds.length })
    (hcell : ∀ x ∈ scope.names, x.2 ≠ .cell) (hco : scope.isCoroutine = false) (hgen : scope.isGenerator = false) (hk : scope.kind = .function) : codeAny (model PR w) A (.call (.ref f) args) R s :=
  enter (muts := []) (fun _ hp => nomatch hp) T.nolimit (X _ _ ho) rfl (codeRec_of X hcd) hroom hbind hloc (fun L' h₁ F N _ => h _ L' h₁ (fun _ _ e => e) rfl X T C F N) hcell hco hgen hk
end

section
variable {w : World} {loose : List Str} {mean : ExcName → Option Value} {mg mb : Str → Option Value} {A : Around} {s : Shared} {R : Result → Shared → Prop} {name qual : Str} {params : Arguments} {body : List Stmt} {scope : Scope} {dV kV doc pm cdv ct oc : Value} {an od : Option Addr} {osl : Array (Option Value)} {f : Addr} {args : Args} {binds : List (Str × Value)}
theorem hide_in {h : Heap} {muts : List (Addr × Obj)} {b : Addr} {o : Obj} (e : h.get? b = some o) (n : ∀ p ∈ muts, p.1 ≠ b) : (hideAll h (muts.map (·.1))).get? b = some o :=
  hideAll_get _ e fun q => by
    obtain ⟨p, hp, e'⟩ := List.mem_map.mp q
    exact n p hp e'
/-- a def whose names are cells is entered; the objects of muts may be written; g bears all others -/
theorem enterKC {muts : List (Addr × Obj)} {K : Frag} {p : Program} (X₀ : K.In s.heap) (hlim : s.heap.NoLimit) (hm : ∀ p ∈ muts, s.heap.get? p.1 = some p.2)
    (ho : K.lookup f = some ⟨oc, od, .func (fnOf name qual params body scope dV kV doc pm an cdv ct), osl⟩) (hcd : codeIn K cdv qual = true) (hroom : A.depth < recursionLimit)
    (hbind : BindsTo s (fnOf name qual params body scope dV kV doc pm an cdv ct) args binds) (hkind : (binds.all fun y => scope.names.lookup y.1 == some .local || scope.names.lookup y.1 == some .cell) = true)
    (hnd : ((cellsFrom 0 scope.names []).map (·.1)).Nodup)
    (h : ∀ g L' h₁ tk cells, (∀ b o, s.heap.get? b = some o → (∀ p ∈ muts, p.1 ≠ b) → g.get? b = some o) → (∀ b o, g.get? b = some o → s.heap.get? b = some o) → (∀ p ∈ muts, g.get? p.1 = none) → g.objs.size = s.heap.objs.size → L' = s.heap.objs.size →
      Fr g L' h₁ (bindL (envOfC qual scope L' f cdv).kindOf binds fun _ => none) → News g L' h₁ (cells ++ muts) →
      CellsAre (bindC (envOfC qual scope L' f cdv).kindOf binds fun _ => none) (cellsFrom (L' + 1) scope.names []) cells → (∀ p ∈ muts, p.1 < L') →
      wpAny (model PR w) (A.deeper (envOfC qual scope L' f cdv)) (execs body (envOfC qual scope L' f cdv))
        (fun fl s' => R (.ok (.ret (match fl with | .ret v => v | _ => .none))) s')
        (fun _ _ => False)
        { s with heap := h₁, toks := tk })
    (hco : scope.isCoroutine = false) (hgen : scope.isGenerator = false) (hk : scope.kind = .function) : codeAny (model PR w) A (.call (.ref f) args) R s := by
  refine codeAny_call_function hroom (X₀ _ _ ho) rfl hco hgen rfl (codeRec_of X₀ hcd) (hbind _ _ _ _ ?_)
  refine wpAny_newFunctionEnv_cells hk (kindsX hkind _) fun env' he s' x => ?_
  subst he
  refine ⟨hlim.keeps x.toInCall.keep, codeAny_func ?_⟩
  obtain ⟨h₁, tk, rfl, _⟩ := x.done
  have hk₁ := x.toInCall.keep
  obtain ⟨cells, NC, Y⟩ := Cl.news (h₀ := s.heap) (Nat.le_refl _) fun n c hm => ⟨x.cell n c (lookup_of_mem_nodup (cellsFrom_names scope.names 0 (s.heap.objs.size + 1) [] [] rfl ▸ hnd) hm), x.above n c hm⟩
  refine wpAny_mono (h (hideAll s.heap (muts.map (·.1))) s.heap.objs.size h₁ tk cells (fun b o e n => hide_in e n) (fun b o e => of_hideAll _ e) (fun p hp => hideAll_none _ (List.mem_map_of_mem hp)) (hideAll_size _ _) rfl
    ⟨x.toInCall.ns, fun b o e => hk₁ b o (of_hideAll _ e), Nat.le_of_eq (hideAll_size _ _)⟩ (fun p hp => ?_) Y (fun p hp => Heap.lt_size (hm p hp))) (fun fl s' hl => hl) fun _ _ y => y.elim
  rcases List.mem_append.mp hp with hp | hp
  · refine ⟨(NC p hp).1, (NC p hp).2.1, ?_⟩
    cases q : (hideAll s.heap (muts.map (·.1))).get? p.1 with
    | none => rfl
    | some o => have := of_hideAll _ q; rw [(NC p hp).2.2] at this; cases this
  · exact ⟨hk₁ _ _ (hm p hp), Nat.ne_of_lt (Heap.lt_size (hm p hp)), hideAll_none _ (List.mem_map_of_mem hp)⟩
end
section
variable {w : World} {A : Around} {s : Shared} {R : Result → Shared → Prop} {name qual : Str} {params : Arguments} {body : List Stmt} {scope : Scope} {dV kV doc pm cdv ct oc : Value} {an od : Option Addr} {osl : Array (Option Value)} {f : Addr} {args : Args} {binds : List (Str × Value)}
theorem enterKM {muts : List (Addr × Obj)} {K : Frag} (X₀ : K.In s.heap) (hlim : s.heap.NoLimit) (hm : ∀ p ∈ muts, s.heap.get? p.1 = some p.2)
    (ho : K.lookup f = some ⟨oc, od, .func (fnOf name qual params body scope dV kV doc pm an cdv ct), osl⟩) (hcd : codeIn K cdv qual = true) (hroom : A.depth < recursionLimit)
    (hbind : BindsTo s (fnOf name qual params body scope dV kV doc pm an cdv ct) args binds) (hloc : ∀ y ∈ binds, scope.names.lookup y.1 = some .local)
    (h : ∀ g L' h₁ tk, (∀ b o, s.heap.get? b = some o → (∀ p ∈ muts, p.1 ≠ b) → g.get? b = some o) → (∀ p ∈ muts, g.get? p.1 = none) → g.objs.size = s.heap.objs.size →
      Fr g L' h₁ (fun y => binds.reverse.lookup y) → News g L' h₁ muts → (∀ p ∈ muts, p.1 < L') →
      wpAny (model PR w) (A.deeper (envX qual scope L' f cdv [])) (execs body (envX qual scope L' f cdv []))
        (fun fl s' => R (.ok (.ret (match fl with | .ret v => v | _ => .none))) s')
        (fun _ _ => False)
        { s with heap := h₁, toks := tk })
    (hcell : ∀ x ∈ scope.names, x.2 ≠ .cell) (hco : scope.isCoroutine = false) (hgen : scope.isGenerator = false) (hk : scope.kind = .function) : codeAny (model PR w) A (.call (.ref f) args) R s :=
  enter (muts := muts) hm hlim (X₀ _ _ ho) rfl (codeRec_of X₀ hcd) hroom hbind hloc (fun L' h₁ F N l =>
    h (hideAll s.heap (muts.map (·.1))) L' h₁ _ (fun b o e n => hide_in e n) (fun p hp => hideAll_none _ (List.mem_map_of_mem hp)) (hideAll_size _ _) F N l) hcell hco hgen hk
end
/-- stops the walk -/
def Stop (p : Prop) : Prop := p
theorem Stop.of {p : Prop} (h : Stop p) : p := h
end
open PySem PySem.W PyProof.Rows PySem.Calls
local macro_rules | `(tactic| walk_at $s:str) => `(tactic| k_extra $s)
local macro_rules | `(tactic| k_room) => `(tactic| ((try simp only [depth_under_make, depth_under_kw, depth_in1, Around_deeper_depth, recursionLimit] at *); omega))
local macro_rules | `(tactic| k_units) => `(tactic| ((have hcL9 := cLine_is); (try simp only [units_in1, Around_deeper_units, Around.mark_units, cLine] at *); omega))
local macro_rules | `(tactic| k_ne) => `(tactic| (refine neN ?_; (try dsimp only); first
  | with_reducible assumption | (with_reducible exact Ne.symm (by assumption))
  | (with_reducible exact Nat.ne_of_lt (And.left (by assumption))) | (with_reducible exact Nat.ne_of_gt (And.left (by assumption)))
  | (with_reducible exact Nat.ne_of_lt (And.left (And.right (by assumption)))) | (with_reducible exact Nat.ne_of_gt (And.left (And.right (by assumption))))
  | (with_reducible exact Nat.ne_of_lt (And.left (And.right (And.right (by assumption))))) | (with_reducible exact Nat.ne_of_gt (And.left (And.right (And.right (by assumption)))))
  | (with_reducible exact Nat.ne_of_lt (And.right (And.right (by assumption)))) | (with_reducible exact Nat.ne_of_gt (And.right (And.right (by assumption))))
  | omega))
local macro_rules | `(tactic| size_fits) => `(tactic| (simp only [Array.size_push, Array.size_append, List.size_toArray, List.length_append, List.length_cons, List.length_nil, PySem.sizeLine_eq]; omega))
section
open PySem PySem.W PyProof.Rows PySem.Calls

theorem buffer_spec {w : World} {loose : List Str} {mean : ExcName → Option Value} {mg mb : Str → Option Value} {A : Around} {s : Shared} {Q E : Value → Shared → Prop} {b : Array UInt8} {t : Tok}
    (O : Ok w loose mean mg mb s.heap) (hdp : A.depth < recursionLimit)
    (ret : ∀ h' tk, (∀ b o, s.heap.get? b = some o → h'.get? b = some o) → Q (.bytes b t) { s with heap := h', toks := tk }) :
    wpAny (model PR w) A (call (.ref 28) [.bytes b t]) Q E s := by
  w_top off
  k_with_none
  (k_with "call type:type" => ((with_reducible show wpAny _ _ (call (Value.type "type") [Value.bytes _ _]) _ _ _); refine call_type_of (typeIs_bytes _ _ _) (by decide +kernel) ?_))
  (k_with "call type:type" => ((with_reducible show wpAny _ _ (call (Value.type "type") [Value.bool _]) _ _ _); refine call_type_of (typeIs_bool _ _) (by decide +kernel) ?_))
  (k_with "compareOp Is" => ((with_reducible show wpAny _ _ (compareOp CmpOp.Is (Value.type _) (Value.type _)) _ _ _); first | refine wpAny_is_self (by rfl) ?_ | refine wpAny_is_other (by rfl) (by intro x; exact absurd (Value.type.inj x) (by decide)) ?_))
  (have kfill0 : (Mine.hd.heap_39 = Mine.hd.heap_39) ∧ PySem.Challenge.rw_mr0056_01 = PySem.Challenge.rw_mr0056_01 := by (k_fill; exact ⟨rfl, rfl⟩)); clear kfill0
  obtain ⟨X, T, C⟩ := O
  refine wpAny_call ?_
  refine' enterK (binds := [(Str.ofString "data", .bytes b t)]) X T C ?k6 ?k7 ?k8 ?k9 ?kB ?_ ?c5 ?c2 ?c3 ?c4
  (case k6 => k_is)
  (case k7 => k_is)
  (case k8 => k_room)
  (case k9 => first | exact BindsTo.of_eq rfl | exact binds_K (by k_in) rfl (by k_is) rfl rfl rfl)
  (case c5 => decide)
  (case kB => exact locs rfl)
  (case c2 => exact rfl)
  (case c3 => exact rfl)
  (case c4 => exact rfl)
  clear X T C
  intro g L' h₁ hk hsz X T C F N
  simp only [List.reverse_cons, List.reverse_nil, List.nil_append, List.cons_append] at F
  k_fold
  k_steps
  all_goals exact ret _ _ (fun b o e => Fr.keep (by first | with_reducible assumption | assumption) b o (hk b o e))

theorem truth_spec {w : World} {loose : List Str} {mean : ExcName → Option Value} {mg mb : Str → Option Value} {A : Around} {s : Shared} {Q E : Value → Shared → Prop}
    (O : Ok w loose mean mg mb s.heap) (hdp : A.depth < recursionLimit)
    (ret : ∀ h' tk, (∀ b o, s.heap.get? b = some o → h'.get? b = some o) → Q (.bool false) { s with heap := h', toks := tk }) :
    wpAny (model PR w) A (call (.ref 35) [.bool false]) Q E s := by
  w_top off
  k_with_none
  (k_with "call type:type" => ((with_reducible show wpAny _ _ (call (Value.type "type") [Value.bytes _ _]) _ _ _); refine call_type_of (typeIs_bytes _ _ _) (by decide +kernel) ?_))
  (k_with "call type:type" => ((with_reducible show wpAny _ _ (call (Value.type "type") [Value.bool _]) _ _ _); refine call_type_of (typeIs_bool _ _) (by decide +kernel) ?_))
  (k_with "compareOp Is" => ((with_reducible show wpAny _ _ (compareOp CmpOp.Is (Value.type _) (Value.type _)) _ _ _); first | refine wpAny_is_self (by rfl) ?_ | refine wpAny_is_other (by rfl) (by intro x; exact absurd (Value.type.inj x) (by decide)) ?_))
  (have kfill0 : (Mine.hd.heap_39 = Mine.hd.heap_39) ∧ PySem.Challenge.rw_mr0056_01 = PySem.Challenge.rw_mr0056_01 := by (k_fill; exact ⟨rfl, rfl⟩)); clear kfill0
  obtain ⟨X, T, C⟩ := O
  refine wpAny_call ?_
  refine' enterK (binds := [(Str.ofString "x", .bool false)]) X T C ?k6 ?k7 ?k8 ?k9 ?kB ?_ ?c5 ?c2 ?c3 ?c4
  (case k6 => k_is)
  (case k7 => k_is)
  (case k8 => k_room)
  (case k9 => first | exact BindsTo.of_eq rfl | exact binds_K (by k_in) rfl (by k_is) rfl rfl rfl)
  (case c5 => decide)
  (case kB => exact locs rfl)
  (case c2 => exact rfl)
  (case c3 => exact rfl)
  (case c4 => exact rfl)
  clear X T C
  intro g L' h₁ hk hsz X T C F N
  simp only [List.reverse_cons, List.reverse_nil, List.nil_append, List.cons_append] at F
  k_fold
  k_steps
  all_goals exact ret _ _ (fun b o e => Fr.keep (by first | with_reducible assumption | assumption) b o (hk b o e))
end
section
open PySem PySem.W PyProof.Rows PySem.Calls

theorem Fr_say {h₀ h : Heap} {L : Addr} {m : Str → Option Value} {x : Str} {v : Value} (F : Fr h₀ L h m) (e : m x = some v) : Fr h₀ L h (fun y => if y = x then some v else m y) := by
  have : (fun y => if y = x then some v else m y) = m := by
    funext y
    by_cases h : y = x
    · rw [if_pos h, h, e]
    · rw [if_neg h]
  rw [this]; exact F

section
variable {prog : Program} {w : World} {A : Around} {E : Value → Shared → Prop} {s : Shared} {env : Env} {h₀ : Heap} {x : Str} {body : List Stmt} {Q : Flow → Shared → Prop} {m₀ : Str → Option Value} {news : List (Addr × Obj)}

/-- what a turn must give back -/
def TurnEnd (h₀ : Heap) (L : Addr) (s : Shared) (I : Addr) (o : Obj) (J : (Str → Option Value) → List (Addr × Obj) → Prop) (f : Flow) (s' : Shared) : Prop :=
  f = .next ∧ ∃ h' tk' m₂ news₂, s' = { s with heap := h', toks := tk' } ∧ Fr h₀ L h' m₂ ∧ News h₀ L h' ((I, o) :: news₂) ∧ (∀ p ∈ news₂, p.1 ≠ I) ∧ J m₂ news₂
theorem TurnEnd.intro {L I : Addr} {o : Obj} {J : (Str → Option Value) → List (Addr × Obj) → Prop} {h' : Heap} {tk' : Nat} {m₂ : Str → Option Value} (news₂ : List (Addr × Obj))
    (F : Fr h₀ L h' m₂) (N : News h₀ L h' ((I, o) :: news₂)) (off : ∀ p ∈ news₂, p.1 ≠ I) (j : J m₂ news₂) : TurnEnd h₀ L s I o J .next { s with heap := h', toks := tk' } :=
  ⟨rfl, h', tk', m₂, news₂, rfl, F, N, off, j⟩

theorem loopJ {I : Addr} {fp : List Addr} {n : Nat} {P : Nat → Value → Prop} {St : Nat → Heap → Prop} (J : Nat → (Str → Option Value) → List (Addr × Obj) → Prop)
    (W : Walks prog w A I fp [I] n P St) (hI : ∀ i h, St i h → ∃ o, h.get? I = some o) (hfp : ∀ b ∈ fp, b = I ∨ ∃ o, h₀.get? b = some o) (hLf : env.locals ∉ fp) (hI₀ : h₀.get? I = none)
    (hoff : ∀ p ∈ news, p.1 ≠ I) (hst : St 0 s.heap) (F : Fr h₀ env.locals s.heap m₀) (N : News h₀ env.locals s.heap news) (h0 : J 0 m₀ news)
    (turn : ∀ i v m₁ news₁ h tk o, i < n → P i v → J i m₁ news₁ → (∀ p ∈ news₁, p.1 ≠ I) → Fr h₀ env.locals h (fun y => if y = x then some v else m₁ y) → News h₀ env.locals h ((I, o) :: news₁) →
      wpAny (model prog w) A (execs body env) (TurnEnd h₀ env.locals s I o (J (i + 1))) E { s with heap := h, toks := tk })
    (done : ∀ m₁ news₁ h tk, J n m₁ news₁ → Fr h₀ env.locals h m₁ → News h₀ env.locals h news₁ → Q .next { s with heap := h, toks := tk }) :
    LoopAtV prog w A h₀ env x body Q E (.ref I) s := by
  refine ⟨I, fp, [I], n, P, St, m₀, news, J, rfl, W, hLf, fun b hb => by rw [List.mem_singleton.mp hb]; exact hI₀, fun p hp => by simpa using hoff p hp, hst, F, N, h0, ?_, fun h' tk m' news' F' N' _ hJ => done m' news' h' tk hJ F' N'⟩
  rintro i v m₁ news₁ s₁ own ⟨hh', tk', rfl⟩ hin hP hJ hoff' hown hget hall hst₁ F₁ N₁
  obtain ⟨o, ho⟩ := hI _ _ hst₁
  have hmem := hall I (W.sub I (List.mem_singleton.mpr rfl)) hI₀ o ho
  have hne : ∀ p ∈ news₁, p.1 ≠ I := fun p hp => by simpa using hoff' p hp
  have ownis : ∀ p ∈ own, p = (I, o) := fun p hp => by
    have h1 := hown p hp
    have h2 := hget p hp
    rcases hfp _ h1 with e | ⟨o', e⟩
    · rw [e] at h2
      have h3 : some p.2 = some o := h2.symm.trans ho
      obtain ⟨a, b⟩ := p
      simp only at e h3
      rw [e, Option.some.inj h3]
    · have := (N₁ p (List.mem_append_left _ hp)).2.2
      rw [e] at this; cases this
  have N₂ : News h₀ env.locals hh' ((I, o) :: news₁) := fun p hp => by
    rcases List.mem_cons.mp hp with rfl | hp
    · exact N₁ _ (List.mem_append_left _ hmem)
    · exact N₁ _ (List.mem_append_right _ hp)
  refine wpAny_mono (turn i v m₁ news₁ hh' tk' o hin hP hJ hne F₁ N₂) (fun f s₂ p => ?_) fun _ _ e => e
  obtain ⟨rfl, h', tk₂, m₂, news₂, rfl, F₂, N₃, off₂, hJ₂⟩ := p
  refine .next ⟨rfl, h', tk₂, m₂, news₂, rfl, F₂, fun p hp => ?_, fun p hp => by simpa using off₂ p hp, hJ₂⟩
  rcases List.mem_append.mp hp with hp | hp
  · rw [ownis p hp]; exact N₃ _ (List.mem_cons_self ..)
  · exact N₃ _ (List.mem_cons_of_mem _ hp)

theorem iter_bytesJ {b : Array UInt8} {tb : Tok} {ks : List Int} (J : List Int → (Str → Option Value) → List (Addr × Obj) → Prop)
    (hk : KBw.bInts b = ks) (hh : A.handled = none) (F : Fr h₀ env.locals s.heap m₀) (N : News h₀ env.locals s.heap news) (h0 : J [] m₀ news)
    (turn : ∀ pre k post t m₁ news₁ h tk I o, ks = pre ++ k :: post → 0 ≤ k → k < 256 → J pre m₁ news₁ → (∀ p ∈ news₁, p.1 ≠ I) → Fr h₀ env.locals h (fun y => if y = x then some (.int k t) else m₁ y) → News h₀ env.locals h ((I, o) :: news₁) →
      wpAny (model prog w) A (execs body env) (TurnEnd h₀ env.locals s I o (J (pre ++ [k]))) E { s with heap := h, toks := tk })
    (done : ∀ m₁ news₁ h tk, J ks m₁ news₁ → Fr h₀ env.locals h m₁ → News h₀ env.locals h news₁ → Q .next { s with heap := h, toks := tk }) :
    wpAny (model prog w) A (pyIter (.bytes b tb)) (fun it s₂ => LoopAtV prog w A h₀ env x body Q E it s₂) E s := by
  subst hk
  refine KBw.pyIter_bytes ?_
  have W := KBw.walks (prog := prog) (w := w) hh s.heap.objs.size b tb
  refine loopJ (fun i m nx => J ((KBw.bInts b).take i) m nx) W (fun i h st => let ⟨o, e, _⟩ := st; ⟨o, e⟩) (fun b' hb => .inl (List.mem_singleton.mp hb)) ?_ (next_is_new F) ?_ ⟨_, Heap.get?_push_size _ rfl, rfl, rfl⟩ (F.push _) (fun p hp => ⟨Heap.get?_push_of_some _ (N p hp).1, (N p hp).2⟩) (by simpa using h0) ?_ ?_
  · intro hm
    exact absurd F.ns.lt ((List.mem_singleton.mp hm) ▸ Nat.lt_irrefl _)
  · intro p hp hI
    exact absurd (Heap.lt_size (N p hp).1) (hI ▸ Nat.lt_irrefl _)
  · rintro i v m₁ news₁ h tk o hi ⟨n, u, hn, rfl⟩ hJ hoff F₁ N₁
    have hn' := KBw.ints_get hn
    have hs : (KBw.bInts b).take (i + 1) = (KBw.bInts b).take i ++ [(n.toNat : Int)] := by simp [List.take_add_one, hn']
    have e : KBw.bInts b = (KBw.bInts b).take i ++ (n.toNat : Int) :: (KBw.bInts b).drop (i + 1) := by
      have ht := List.take_append_drop (i + 1) (KBw.bInts b)
      rw [hs, List.append_assoc] at ht
      exact ht.symm
    have hb := KBw.ints_in (List.mem_of_getElem? hn')
    rw [hs]
    exact turn _ _ _ u m₁ news₁ h tk _ o e hb.1 hb.2 hJ hoff F₁ N₁
  · intro m₁ news₁ h tk hJ F₁ N₁
    rw [← KBw.ints_length b, List.take_length] at hJ
    exact done m₁ news₁ h tk hJ F₁ N₁
end
theorem make_arr {prog : Program} {w : World} {A : Around} {E : Value → Shared → Prop} {s : Shared} {h₀ : Heap} {L D : Addr} {m : PySem.Str → Option Value} {news : List (Addr × Obj)} {its : Array Value} {ep : Nat} {ns : List Int}
    {Q : Value → Shared → Prop} (F : Fr h₀ L s.heap m) (N : News h₀ L s.heap news) (hh : A.handled = none) (hm : (D, W.listOf its ep) ∈ news) (hi : IntsAre its.toList ns) (hr : ∀ n ∈ ns, 0 ≤ n ∧ n < 256) (hn : ns.length ≤ 10000)
    (h : ∀ h' t' k, Fr h₀ L h' m → News h₀ L h' news → KBw.bInts (byteArr ns) = ns → Q (.bytes (byteArr ns) t') { s with heap := h', toks := k }) : wpAny (model prog w) A (call (.type "bytes") [.ref D]) Q E s :=
  KBa.make_K (vs := its.toList) F N hh (News.isList N hm) hi hr (by omega) fun h' t' k F' N' hin => h h' t' k F' N' (KBa.ints_make hin)
section
open LCg
variable {prog : Program} {w : World} {A : Around} {s : Shared} {h₀ : Heap} {L : Addr} {m : Str → Option Value} {env : Env} {elt : Expr} {x : Str} {scope : Scope} {cl : List (Str × Addr)} {S : List (Addr × Obj) → Prop} {P : Nat → Value → Prop} {Fin : List Value → List (Addr × Obj) → Prop}
theorem compRest_ind (J : Nat → List Value → List (Addr × Obj) → Prop) (n : Nat)
    (turn : ∀ i ys news v I oI C oC D m₂ h tk (E' : Value → Shared → Prop), i < n → J i ys news → P i v → NsObj oC m₂ → m₂ x = some v → Fr h₀ L h m → News h₀ L h ((I, oI) :: (C, oC) :: (D, lst ys) :: news) → Off3 I C D news → ((@Ne Nat I C) ∧ (@Ne Nat I D) ∧ (@Ne Nat C D)) →
      wpAny (model prog w) A (eval elt (compEnvC scope cl C env)) (CompEnd h₀ L m { s with heap := h, toks := tk } I oI C oC D (lst ys) S (fun y news' => J (i + 1) (ys ++ [y]) news')) E' { s with heap := h, toks := tk })
    (fin : ∀ ys news, J n ys news → Fin ys news) : ∀ k i ys news, i + k = n → J i ys news → CompRest prog w A h₀ L m env elt x scope cl s S P Fin k i ys news
  | 0, i, ys, news, e, hj => CompRest.zero (fin ys news (by have : i = n := by omega
                                                            exact this ▸ hj))
  | k + 1, i, ys, news, e, hj => CompRest.succ fun v I oI C oC D m₂ h tk E' hP hC hx F N off ne =>
      wpAny_mono (turn i ys news v I oI C oC D m₂ h tk E' (by omega) hj hP hC hx F N off ne) (fun y s₂ ⟨h', tk', news', e1, F', N', off', hS, hj'⟩ =>
        ⟨h', tk', news', e1, F', N', off', hS, compRest_ind J n turn fin k (i + 1) (ys ++ [y]) news' (by omega) hj'⟩) fun _ _ e => e
end
end
section
open PySem PySem.W PyProof.Rows

/-- a list of figures read to the base B -/
def val (B : Int) (l : List Int) : Int := l.foldl (fun n b => n * B + b) 0
theorem val_snoc (B : Int) (l : List Int) (b : Int) : val B (l ++ [b]) = val B l * B + b := by simp [val, List.foldl_append]
theorem val_nil (B : Int) : val B [] = 0 := rfl

structure B64Inv (pre S : List Int) (lb lc : Int) : Prop where
  hlb : lb = 0 ∨ lb = 2 ∨ lb = 4
  lc0 : 0 ≤ lc
  lc1 : lc < 65536
  s : ∀ x ∈ S, 0 ≤ x ∧ x < 64
  len : 8 * (pre.length : Int) = 6 * (S.length : Int) + lb
  v0 : lb = 0 → val 256 pre = val 64 S
  v2 : lb = 2 → val 256 pre = val 64 S * 4 + lc % 4
  v4 : lb = 4 → val 256 pre = val 64 S * 16 + lc % 16

theorem B64Inv.nil : B64Inv [] [] 0 0 := ⟨.inl rfl, by decide, by decide, (fun _ h => nomatch h), rfl, (fun _ => rfl), (fun h => by cases h), (fun h => by cases h)⟩

theorem bitOr_shift {lc k : Int} (h0 : 0 ≤ lc) (hk0 : 0 ≤ k) (hk1 : k < 256) : Builtin.bitOr (lc * 2 ^ Int.toNat 8) k = lc * 256 + k := by
  have e : lc * 2 ^ Int.toNat 8 = lc * 256 := rfl
  rw [e, bitOr_and, bitAnd_pp (by omega) hk0]
  have h1 : (lc * 256).toNat = 2 ^ 8 * lc.toNat := by omega
  have h2 : k.toNat < 2 ^ 8 := by omega
  have h3 : 2 ^ 8 * lc.toNat &&& k.toNat = 0 := by
    refine Nat.eq_of_testBit_eq fun i => ?_
    rw [Nat.testBit_and, Nat.zero_testBit, Nat.testBit_two_pow_mul]
    by_cases hi : i ≥ 8
    · rw [Nat.testBit_lt_two_pow (Nat.lt_of_lt_of_le h2 (Nat.pow_le_pow_right (by decide) hi)), Bool.and_false]
    · simp [hi]
  rw [h1, h3]; simp
theorem lc_next {lc k : Int} (h0 : 0 ≤ lc) (hk0 : 0 ≤ k) (hk1 : k < 256) : Builtin.bitAnd (Builtin.bitOr (lc * 2 ^ Int.toNat 8) k) 65535 = (lc * 256 + k) % 65536 := by
  rw [bitOr_shift h0 hk0 hk1, bitAnd_m16]

theorem mem_snoc {P : Int → Prop} {S : List Int} {x : Int} (h : ∀ y ∈ S, P y) (hx : P x) : ∀ y ∈ S ++ [x], P y := fun y hy => by
  rcases List.mem_append.mp hy with hy | hy
  · exact h y hy
  · rw [List.mem_singleton.mp hy]; exact hx
theorem B64Inv.step0 {pre S : List Int} {lc k L' x lb' : Int} (inv : B64Inv pre S 0 lc) (hk0 : 0 ≤ k) (hk1 : k < 256) (hL : L' = (lc * 256 + k) % 65536) (hx : x = L' / 4) (hlb : lb' = 2) : B64Inv (pre ++ [k]) (S ++ [x % 64]) lb' L' := by
  have hv := inv.v0 rfl
  have hl := inv.len
  have h0 := inv.lc0
  subst hx hlb
  refine ⟨.inr (.inl rfl), by omega, by omega, mem_snoc inv.s (by omega), by simp; omega, fun h => by omega, fun _ => ?_, fun h => by omega⟩
  rw [val_snoc, val_snoc, hv]; omega
theorem B64Inv.step2 {pre S : List Int} {lc k L' x lb' : Int} (inv : B64Inv pre S 2 lc) (hk0 : 0 ≤ k) (hk1 : k < 256) (hL : L' = (lc * 256 + k) % 65536) (hx : x = L' / 16) (hlb : lb' = 4) : B64Inv (pre ++ [k]) (S ++ [x % 64]) lb' L' := by
  have hv := inv.v2 rfl
  have hl := inv.len
  have h0 := inv.lc0
  subst hx hlb
  refine ⟨.inr (.inr rfl), by omega, by omega, mem_snoc inv.s (by omega), by simp; omega, fun h => by omega, fun h => by omega, fun _ => ?_⟩
  rw [val_snoc, val_snoc, hv]; omega
theorem B64Inv.step4 {pre S : List Int} {lc k L' x y lb' : Int} (inv : B64Inv pre S 4 lc) (hk0 : 0 ≤ k) (hk1 : k < 256) (hL : L' = (lc * 256 + k) % 65536) (hx : x = L' / 64) (hy : y = L') (hlb : lb' = 0) : B64Inv (pre ++ [k]) (S ++ [x % 64] ++ [y % 64]) lb' L' := by
  have hv := inv.v4 rfl
  have hl := inv.len
  have h0 := inv.lc0
  subst hx hlb hy
  refine ⟨.inl rfl, by omega, by omega, mem_snoc (mem_snoc inv.s (by omega)) (by omega), by simp; omega, fun _ => ?_, fun h => by omega, fun h => by omega⟩
  rw [val_snoc, val_snoc, val_snoc, hv]; omega
/-- the signs' numbers, by their places -/
def AL64 : List Int := (List.range 26).map (fun i : Nat => (65 + (i : Int))) ++ (List.range 26).map (fun i : Nat => (97 + (i : Int))) ++ (List.range 10).map (fun i : Nat => (48 + (i : Int))) ++ [43, 47]
def ALurl : List Int := (List.range 26).map (fun i : Nat => (65 + (i : Int))) ++ (List.range 26).map (fun i : Nat => (97 + (i : Int))) ++ (List.range 10).map (fun i : Nat => (48 + (i : Int))) ++ [45, 95]
def AL16 : List Int := (List.range 10).map (fun i : Nat => (48 + (i : Int))) ++ (List.range 6).map (fun i : Nat => (65 + (i : Int)))
def sgn (AL : List Int) (i : Int) : Int := AL.getD i.toNat 0
theorem ints_snoc {arr : Array Value} {ns : List Int} {n : Int} {t : Tok} (h : IntsAre arr.toList ns) : IntsAre (arr.push (.int n t)).toList (ns ++ [n]) := by
  rw [Array.toList_push]; exact h.append (.cons n t .nil)
/-- what a writer of w bits a sign makes of ks -/
structure Enc (AL : List Int) (w : Nat) (ks out : List Int) : Prop where
  is : ∃ (S : List Int) (p r : Nat), out = S.map (sgn AL) ++ List.replicate p 61 ∧ (∀ x ∈ S, 0 ≤ x ∧ x < 2 ^ w) ∧ w * S.length = 8 * ks.length + r ∧ r < 8 ∧ val (2 ^ w) S = val 256 ks * 2 ^ r
theorem B64Inv.end0 {ks S : List Int} {lc : Int} (inv : B64Inv ks S 0 lc) : Enc AL64 6 ks (S.map (sgn AL64)) ∧ (S.map (sgn AL64)).length = 4 * ((ks.length + 2) / 3) := by
  have h1 := inv.len
  have h2 := inv.v0 rfl
  refine ⟨⟨S, 0, 0, by simp, inv.s, by omega, by decide, ?_⟩, ?_⟩
  · show val 64 S = val 256 ks * 1; omega
  · rw [List.length_map]; omega
theorem B64Inv.end2 {ks S : List Int} {lc : Int} (inv : B64Inv ks S 2 lc) :
    Enc AL64 6 ks (S.map (sgn AL64) ++ [sgn AL64 (lc % 4 * 16)] ++ [61] ++ [61]) ∧ (S.map (sgn AL64) ++ [sgn AL64 (lc % 4 * 16)] ++ [61] ++ [61]).length = 4 * ((ks.length + 2) / 3) := by
  have h1 := inv.len
  have h2 := inv.v2 rfl
  refine ⟨⟨S ++ [lc % 4 * 16], 2, 4, by simp [List.replicate], mem_snoc inv.s (by omega), by simp; omega, by decide, ?_⟩, ?_⟩
  · show val 64 (S ++ [lc % 4 * 16]) = val 256 ks * 16; rw [val_snoc]; omega
  · simp; omega
theorem B64Inv.end4 {ks S : List Int} {lc : Int} (inv : B64Inv ks S 4 lc) :
    Enc AL64 6 ks (S.map (sgn AL64) ++ [sgn AL64 (lc % 16 * 4)] ++ [61]) ∧ (S.map (sgn AL64) ++ [sgn AL64 (lc % 16 * 4)] ++ [61]).length = 4 * ((ks.length + 2) / 3) := by
  have h1 := inv.len
  have h2 := inv.v4 rfl
  refine ⟨⟨S ++ [lc % 16 * 4], 1, 2, by simp [List.replicate], mem_snoc inv.s (by omega), by simp; omega, by decide, ?_⟩, ?_⟩
  · show val 64 (S ++ [lc % 16 * 4]) = val 256 ks * 4; rw [val_snoc]; omega
  · simp; omega
theorem sgn64_in (i : Int) : 0 ≤ sgn AL64 i ∧ sgn AL64 i < 256 := by
  have h : ∀ k ∈ AL64, 0 ≤ k ∧ k < 256 := by decide
  exact KBw.getD_in (ks := AL64) (j := i.toNat) h
theorem map64_in (S : List Int) : ∀ n ∈ S.map (sgn AL64), 0 ≤ n ∧ n < 256 := fun n hn => by
  obtain ⟨i, _, rfl⟩ := List.mem_map.mp hn; exact sgn64_in i
/-- the table that turns + and / into - and _ -/
def toUrl (c : Int) : Int := if c = 43 then 45 else if c = 47 then 95 else c
theorem toUrl_sgn : ∀ i : Int, 0 ≤ i → i < 64 → toUrl (sgn AL64 i) = sgn ALurl i := by
  have h : ∀ n : Fin 64, toUrl (sgn AL64 (n.val : Int)) = sgn ALurl (n.val : Int) := by decide
  intro i h0 h1
  have := h ⟨i.toNat, by omega⟩
  rwa [show ((i.toNat : Nat) : Int) = i by omega] at this
theorem enc_url {ks out : List Int} (e : Enc AL64 6 ks out) : Enc ALurl 6 ks (out.map toUrl) := by
  obtain ⟨S, p, r, rfl, h1, h2, h3, h4⟩ := e.is
  refine ⟨S, p, r, ?_, h1, h2, h3, h4⟩
  rw [List.map_append, List.map_replicate, List.map_map]
  congr 1
  exact List.map_congr_left fun i hi => toUrl_sgn i (h1 i hi).1 (h1 i hi).2
theorem url_of_table {tb : Array UInt8} (ht : ∀ c : Fin 256, ((tb.getD c.val (c.val.toUInt8)).toNat : Int) = toUrl (c.val : Int)) (b : Array UInt8) :
    KBw.bInts (b.map fun c => tb.getD c.toNat c) = (KBw.bInts b).map toUrl := by
  unfold KBw.bInts
  rw [Array.toList_map, List.map_map, List.map_map]
  refine List.map_congr_left fun c _ => ?_
  have := ht ⟨c.toNat, c.toNat_lt⟩
  simpa using this

/-- the signs of hex, upper case -/
def hex2 (c : Int) : List Int := [sgn AL16 (c / 16), sgn AL16 (c % 16)]
theorem hexUp : ∀ n : Fin 16, (((Nat.toUInt8 (Builtin.Bytes.hexDigit n.val) |> Builtin.Bytes.toUpper).toNat : Nat) : Int) = sgn AL16 (n.val : Int) := by decide
theorem hex_lt : ∀ n : Fin 16, Builtin.Bytes.hexDigit n.val < 128 := by decide
theorem val_hex (ks : List Int) : ∀ acc : Int, (ks.flatMap fun c => [c / 16, c % 16]).foldl (fun n b => n * 16 + b) acc = ks.foldl (fun n b => n * 256 + b) acc := by
  induction ks with
  | nil => intro acc; rfl
  | cons c r ih =>
    intro acc
    rw [List.flatMap_cons, List.foldl_append, List.foldl_cons, List.foldl_cons, List.foldl_cons, List.foldl_nil, ih]
    congr 1
    omega
theorem hex_len (ks : List Int) : (ks.flatMap fun c => [c / 16, c % 16]).length = 2 * ks.length := by
  induction ks with
  | nil => rfl
  | cons c r ih => rw [List.flatMap_cons, List.length_append, ih]; simp; omega
theorem enc_hex {ks : List Int} (hk : ∀ c ∈ ks, 0 ≤ c ∧ c < 256) : Enc AL16 4 ks (ks.flatMap hex2) := by
  refine ⟨ks.flatMap (fun c => [c / 16, c % 16]), 0, 0, ?_, ?_, ?_, by decide, ?_⟩
  · simp [List.map_flatMap]; rfl
  · intro x hx
    obtain ⟨c, hc, hx⟩ := List.mem_flatMap.mp hx
    have := hk c hc
    simp at hx
    rcases hx with rfl | rfl <;> omega
  · rw [hex_len]; omega
  · show val 16 _ = val 256 ks * 1
    rw [Int.mul_one]; exact val_hex ks 0
theorem hex2_len (ks : List Int) : (ks.flatMap hex2).length = 2 * ks.length := by
  induction ks with
  | nil => rfl
  | cons c r ih => rw [List.flatMap_cons, List.length_append, ih]; simp [hex2]; omega
end
section
open PySem PySem.W PyProof.Rows PySem.Calls
theorem item_and63 {prog : Program} {w : World} {A : Around} {E Q : Value → Shared → Prop} {s : Shared} {value slice : PySem.Expr} {b : Array UInt8} {t ui : Tok} {x : Int} (hb : KBw.bInts b = AL64)
    (h : ∀ t' k, Q (.int (sgn AL64 (x % 64)) t') { s with toks := k })
    (hs : subscripted slice false (.bytes b t) (.int (x % 64) ui) = operate [.bytes b t, .int (x % 64) ui] (getItem (.bytes b t) (.int (x % 64) ui)) := by with_unfolding_all rfl)
    (ht : ∀ r, letTemporaryGo value (.bytes b t) r = pure () := by intro _; with_unfolding_all rfl) : wpAny (model prog w) A (subscriptTail value slice (.bytes b t) (.int (Builtin.bitAnd x 63) ui)) Q E s := by
  rw [bitAnd_m6]
  have hl : AL64.length = 64 := by decide
  refine KBw.item_K hb (by rw [hl]; decide) (by omega) (by rw [hl]; omega) (fun t' k _ _ => h t' k) hs ht

theorem item_at64 {prog : Program} {w : World} {A : Around} {E Q : Value → Shared → Prop} {s : Shared} {value slice : PySem.Expr} {b : Array UInt8} {t ui : Tok} {x : Int} (hb : KBw.bInts b = AL64) (h0 : 0 ≤ x) (h1 : x < 64)
    (h : ∀ t' k, Q (.int (sgn AL64 x) t') { s with toks := k })
    (hs : subscripted slice false (.bytes b t) (.int x ui) = operate [.bytes b t, .int x ui] (getItem (.bytes b t) (.int x ui)) := by with_unfolding_all rfl)
    (ht : ∀ r, letTemporaryGo value (.bytes b t) r = pure () := by intro _; with_unfolding_all rfl) : wpAny (model prog w) A (subscriptTail value slice (.bytes b t) (.int x ui)) Q E s := by
  have hl : AL64.length = 64 := by decide
  refine KBw.item_K hb (by rw [hl]; decide) h0 (by rw [hl]; omega) (fun t' k _ _ => h t' k) hs ht
theorem shl_and3 {prog : Program} {w : World} {A : Around} {E Q : Value → Shared → Prop} {s : Shared} {x : Int} {t u : Tok} (h : Q (.int (x % 4 * 16) s.toks) { s with toks := s.toks + 1 }) : wpAny (model prog w) A (binaryOp .LShift (.int (Builtin.bitAnd x 3) t) (.int 4 u)) Q E s := by
  rw [bitAnd_m2]; exact lshift_int_small (by decide) (by decide) (by omega) h
theorem shl_and15 {prog : Program} {w : World} {A : Around} {E Q : Value → Shared → Prop} {s : Shared} {x : Int} {t u : Tok} (h : Q (.int (x % 16 * 4) s.toks) { s with toks := s.toks + 1 }) : wpAny (model prog w) A (binaryOp .LShift (.int (Builtin.bitAnd x 15) t) (.int 2 u)) Q E s := by
  rw [bitAnd_m4]; exact lshift_int_small (by decide) (by decide) (by omega) h

theorem b2a_spec {w : World} {loose : List Str} {mean : ExcName → Option Value} {mg mb : Str → Option Value} {A : Around} {s : Shared} {Q E : Value → Shared → Prop} {b : Array UInt8} {t : Tok} {ks : List Int}
    (O : Ok w loose mean mg mb s.heap) (hdp : A.depth + 2 < recursionLimit) (hh : A.handled = none) (hb : KBw.bInts b = ks) (hks : ks.length ≤ 1000)
    (ret : ∀ bb t' h' tk, Enc AL64 6 ks (KBw.bInts bb) → (KBw.bInts bb).length = 4 * ((ks.length + 2) / 3) → (∀ b o, s.heap.get? b = some o → h'.get? b = some o) → Q (.bytes bb t') { s with heap := h', toks := tk }) :
    wpAny (model PR w) A (call (.ref 43) [.bytes b t] [(Str.ofString "newline", .bool false)]) Q E s := by
  w_top off
  k_with_none
  (k_with "call ref" => ((with_reducible show wpAny _ _ (call (Value.ref 28) _ _) _ _ _); (refine buffer_spec (Ok.keeps ⟨by k_asm, by k_asm, by k_asm⟩ (Fr.keep (by k_asm))) (by k_room) ?_); intro h' tk' hk'; (have F' := Fr.keeps (by k_asm) hk'); (have N' := News.grown (by k_asm) hk'); clear hk'; (try k_sweep)))
  (k_with "call ref" => ((with_reducible show wpAny _ _ (call (Value.ref 35) _ _) _ _ _); (refine truth_spec (Ok.keeps ⟨by k_asm, by k_asm, by k_asm⟩ (Fr.keep (by k_asm))) (by k_room) ?_); intro h' tk' hk'; (have F' := Fr.keeps (by k_asm) hk'); (have N' := News.grown (by k_asm) hk'); clear hk'; (try k_sweep)))
  (k_with "subscriptTail" => ((with_reducible show wpAny _ _ (subscriptTail _ _ (Value.bytes _ _) (Value.int (Builtin.bitAnd _ 63) _)) _ _ _); (refine item_and63 (by decide +kernel) ?_); intro _ _))
  (k_with "subscriptTail" => ((with_reducible show wpAny _ _ (subscriptTail _ _ (Value.bytes _ _) (Value.int (_ % _ * _) _)) _ _ _); (refine item_at64 (by decide +kernel) (by omega) (by omega) ?_); intro _ _))
  (k_with "binaryOp LShift int int" => ((with_reducible show wpAny _ _ (binaryOp _ (Value.int (Builtin.bitAnd _ 3) _) _) _ _ _); refine shl_and3 ?_))
  (k_with "binaryOp LShift int int" => ((with_reducible show wpAny _ _ (binaryOp _ (Value.int (Builtin.bitAnd _ 15) _) _) _ _ _); refine shl_and15 ?_))
  (have kfill0 : (Mine.hd.heap_39 = Mine.hd.heap_39) ∧ PySem.Challenge.rw_mr0056_01 = PySem.Challenge.rw_mr0056_01 := by (k_fill; exact ⟨rfl, rfl⟩)); clear kfill0
  obtain ⟨X, T, C⟩ := O
  refine wpAny_call ?_
  refine' enterK (binds := [(Str.ofString "data", .bytes b t), (Str.ofString "newline", .bool false)]) X T C ?k6 ?k7 ?k8 ?k9 ?kB ?_ ?c5 ?c2 ?c3 ?c4
  (case k6 => k_is)
  (case k7 => k_is)
  (case k8 => k_room)
  (case k9 => first | exact BindsTo.of_eq rfl | exact binds_K (by k_in) rfl (by k_is) rfl rfl rfl)
  (case c5 => decide)
  (case kB => exact locs rfl)
  (case c2 => exact rfl)
  (case c3 => exact rfl)
  (case c4 => exact rfl)
  clear X T C
  intro g L' h₁ hk hsz X T C F N
  simp only [List.reverse_cons, List.reverse_nil, List.nil_append, List.cons_append] at F
  k_fold
  k_steps
  rename Fr _ _ _ _ => F
  rename News _ _ _ _ => N
  refine iter_bytesJ (fun pre m news => ∃ D S lb lc t1 t2 arr ep, m (Str.ofString "leftbits") = some (.int lb t1) ∧ m (Str.ofString "leftchar") = some (.int lc t2) ∧ m (Str.ofString "out") = some (.ref D) ∧ m (Str.ofString "newline") = some (.bool false) ∧
     news = [(D, W.listOf arr ep)] ∧ IntsAre arr.toList (S.map (sgn AL64)) ∧ B64Inv pre S lb lc) hb hh F N ?_ ?_ ?_
  · exact ⟨_, [], 0, 0, _, _, _, _, rfl, rfl, rfl, rfl, rfl, .nil, B64Inv.nil⟩
  · rintro pre k post tk1 m₁ news₁ h tk2 I o hks' hk0 hk1 ⟨D, S, lb, lc, t1, t2, arr, ep, e1, e2, e3, e4, rfl, hi, inv⟩ hoff F N
    have F := Fr_say (x := Str.ofString "newline") F (v := .bool false) (by rw [if_neg (by decide)]; exact e4)
    have F := Fr_say (x := Str.ofString "out") F (v := .ref D) (by rw [if_neg (by decide), if_neg (by decide)]; exact e3)
    have F := Fr_say (x := Str.ofString "leftchar") F (v := .int lc t2) (by rw [if_neg (by decide), if_neg (by decide), if_neg (by decide)]; exact e2)
    have F := Fr_say (x := Str.ofString "leftbits") F (v := .int lb t1) (by rw [if_neg (by decide), if_neg (by decide), if_neg (by decide), if_neg (by decide)]; exact e1)
    clear e1 e2 e3 e4
    have hlc0 := inv.lc0
    have hlc1 := inv.lc1
    have hID : @Ne Nat D I := hoff _ (List.mem_cons_self ..)
    have hlen : arr.size ≤ 2000 := by
      have e1 := hi.length
      have e2 := inv.len
      have e3 := inv.hlb
      have e4 : pre.length ≤ ks.length := by rw [hks']; simp
      rw [Array.length_toList, List.length_map] at e1
      omega
    have hL := lc_next hlc0 hk0 hk1
    rcases inv.hlb with rfl | rfl | rfl
    · k_steps
      refine TurnEnd.intro _ (by assumption) (by assumption) (by simpa using hID) ⟨D, S ++ [_ % 64], _, _, _, _, _, _, rfl, rfl, rfl, rfl, rfl, by rw [List.map_append]; exact ints_snoc hi, inv.step0 hk0 hk1 hL ?_ rfl⟩
      exact Int.fdiv_eq_ediv_of_nonneg _ (by decide)
    · k_steps
      refine TurnEnd.intro _ (by assumption) (by assumption) (by simpa using hID) ⟨D, S ++ [_ % 64], _, _, _, _, _, _, rfl, rfl, rfl, rfl, rfl, by rw [List.map_append]; exact ints_snoc hi, inv.step2 hk0 hk1 hL ?_ rfl⟩
      exact Int.fdiv_eq_ediv_of_nonneg _ (by decide)
    · k_steps
      refine TurnEnd.intro _ (by assumption) (by assumption) (by simpa using hID) ⟨D, S ++ [_ % 64] ++ [_ % 64], _, _, _, _, _, _, rfl, rfl, rfl, rfl, rfl, by rw [List.map_append, List.map_append]; exact ints_snoc (ints_snoc hi), inv.step4 hk0 hk1 hL ?_ ?_ rfl⟩
      · exact Int.fdiv_eq_ediv_of_nonneg _ (by decide)
      · exact (Int.fdiv_eq_ediv_of_nonneg _ (by decide)).trans (Int.ediv_one _)
  · rintro m₁ news₁ h tk1 ⟨D, S, lb, lc, t1, t2, arr, ep, e1, e2, e3, e4, rfl, hi, inv⟩ F N
    have F := Fr_say (x := Str.ofString "newline") F e4
    have F := Fr_say (x := Str.ofString "out") F (v := .ref D) (by rw [if_neg (by decide)]; exact e3)
    have F := Fr_say (x := Str.ofString "leftchar") F (v := .int lc t2) (by rw [if_neg (by decide), if_neg (by decide)]; exact e2)
    have F := Fr_say (x := Str.ofString "leftbits") F (v := .int lb t1) (by rw [if_neg (by decide), if_neg (by decide), if_neg (by decide)]; exact e1)
    clear e1 e2 e3 e4
    have hlc0 := inv.lc0
    have hlc1 := inv.lc1
    have hlen : arr.size ≤ 2000 := by
      have e1 := hi.length
      have e2 := inv.len
      have e3 := inv.hlb
      rw [Array.length_toList, List.length_map] at e1
      omega
    rcases inv.hlb with rfl | rfl | rfl
    · obtain ⟨en, el⟩ := inv.end0
      k_steps
      refine make_arr (by assumption) (by assumption) hh (by k_mem) hi (map64_in S) (by omega) ?_
      intro h' t' k' F' N' hin
      k_unfold
      rw [← hin] at en el
      exact ret _ _ _ _ en el (fun b o e => F'.keep b o (hk b o e))
    · obtain ⟨en, el⟩ := inv.end2
      k_steps
      refine make_arr (by assumption) (by assumption) hh (by k_mem) (ints_snoc (ints_snoc (ints_snoc hi))) (mem_snoc (mem_snoc (mem_snoc (map64_in S) (sgn64_in _)) (by decide)) (by decide)) (by omega) ?_
      intro h' t' k' F' N' hin
      k_unfold
      rw [← hin] at en el
      exact ret _ _ _ _ en el (fun b o e => F'.keep b o (hk b o e))
    · obtain ⟨en, el⟩ := inv.end4
      k_steps
      refine make_arr (by assumption) (by assumption) hh (by k_mem) (ints_snoc (ints_snoc hi)) (mem_snoc (mem_snoc (map64_in S) (sgn64_in _)) (by decide)) (by omega) ?_
      intro h' t' k' F' N' hin
      k_unfold
      rw [← hin] at en el
      exact ret _ _ _ _ en el (fun b o e => F'.keep b o (hk b o e))
end
section
open PySem PySem.W PyProof.Rows PySem.Calls PySem.Builtin

theorem slot_bytes_translate : Slot "bytes" "translate" "bytes.translate" :=
  .of (owner := "bytes") (n := "translate") (by rw [typeLookup_type, builtinLookup_eq_fast]; kernel_rfl) (by decide +kernel) (by decide +kernel) (by decide +kernel)
    (by first | exact .inl (by decide +kernel) | exact .inr (by decide +kernel)) (by rw [isSubtype_type]; kernel_rfl)
theorem type_bytes_translate : typeOf (.builtin "bytes.translate") = pure (.type "method_descriptor") := by show builtinType _ = _; rw [builtinType_eq_fast]; kernel_rfl
theorem entry_bytes_translate : entryFor table "bytes.translate" = some Builtin.«bytes.translate» := entryFor_of_tree (by kernel_rfl)
theorem args_bytes_translate (a b : Value) : argsOk "bytes.translate" ⟨[a, b], []⟩ := by
  unfold argsOk; rw [signature?_of (id := "bytes.translate") (n := ['e', 't', 'a', 'l', 's', 'n', 'a', 'r', 't']) (o := ['s', 'e', 't', 'y', 'b']) (by kernel_rfl) FB.owner_bytes]; kernel_rfl
theorem slot_bytes_upper : Slot "bytes" "upper" "bytes.upper" :=
  .of (owner := "bytes") (n := "upper") (by rw [typeLookup_type, builtinLookup_eq_fast]; kernel_rfl) (by decide +kernel) (by decide +kernel) (by decide +kernel)
    (by first | exact .inl (by decide +kernel) | exact .inr (by decide +kernel)) (by rw [isSubtype_type]; kernel_rfl)
theorem type_bytes_upper : typeOf (.builtin "bytes.upper") = pure (.type "method_descriptor") := by show builtinType _ = _; rw [builtinType_eq_fast]; kernel_rfl
theorem entry_bytes_upper : entryFor table "bytes.upper" = some Builtin.«bytes.upper» := entryFor_of_tree (by kernel_rfl)
theorem args_bytes_upper (a : Value) : argsOk "bytes.upper" ⟨[a], []⟩ := by
  unfold argsOk; rw [signature?_of (id := "bytes.upper") (n := ['r', 'e', 'p', 'p', 'u']) (o := ['s', 'e', 't', 'y', 'b']) (by kernel_rfl) FB.owner_bytes]; kernel_rfl
theorem slot_bytes_join : Slot "bytes" "join" "bytes.join" :=
  .of (owner := "bytes") (n := "join") (by rw [typeLookup_type, builtinLookup_eq_fast]; kernel_rfl) (by decide +kernel) (by decide +kernel) (by decide +kernel)
    (by first | exact .inl (by decide +kernel) | exact .inr (by decide +kernel)) (by rw [isSubtype_type]; kernel_rfl)
theorem type_bytes_join : typeOf (.builtin "bytes.join") = pure (.type "method_descriptor") := by show builtinType _ = _; rw [builtinType_eq_fast]; kernel_rfl
theorem entry_bytes_join : entryFor table "bytes.join" = some Builtin.«bytes.join» := entryFor_of_tree (by kernel_rfl)
theorem args_bytes_join (a b : Value) : argsOk "bytes.join" ⟨[a, b], []⟩ := by
  unfold argsOk; rw [signature?_of (id := "bytes.join") (n := ['n', 'i', 'o', 'j']) (o := ['s', 'e', 't', 'y', 'b']) (by kernel_rfl) FB.owner_bytes]; kernel_rfl
theorem slot_bytes_find : Slot "bytes" "find" "bytes.find" :=
  .of (owner := "bytes") (n := "find") (by rw [typeLookup_type, builtinLookup_eq_fast]; kernel_rfl) (by decide +kernel) (by decide +kernel) (by decide +kernel)
    (by first | exact .inl (by decide +kernel) | exact .inr (by decide +kernel)) (by rw [isSubtype_type]; kernel_rfl)
theorem type_bytes_find : typeOf (.builtin "bytes.find") = pure (.type "method_descriptor") := by show builtinType _ = _; rw [builtinType_eq_fast]; kernel_rfl
theorem entry_bytes_find : entryFor table "bytes.find" = some Builtin.«bytes.find» := entryFor_of_tree (by kernel_rfl)
theorem args_bytes_find (a b : Value) : argsOk "bytes.find" ⟨[a, b], []⟩ := by
  unfold argsOk; rw [signature?_of (id := "bytes.find") (n := ['d', 'n', 'i', 'f']) (o := ['s', 'e', 't', 'y', 'b']) (by kernel_rfl) FB.owner_bytes]; kernel_rfl
section
open PySem.Builtin._codecs
theorem forIn_two {σ : Type} {a b : σ} {f : Nat → σ → Sem (ForInStep σ)} (l : List Nat) (hl : l ≠ []) (f1 : ∀ i, f i a = pure (.yield b)) (f2 : ∀ i, f i b = pure (.done b)) : forIn l a f = pure b := by
  cases l with
  | nil => exact absurd rfl hl
  | cons i r =>
    rw [List.forIn_cons, f1]
    simp only [pure_bind]
    cases r with
    | nil => rfl
    | cons j r => rw [List.forIn_cons, f2]; rfl
theorem foldl_one (l : List Nat) (acc : Array UInt8) : l.foldl (fun acc y => acc ++ (asciiCodec.bytesOf y).toArray) acc = acc ++ (l.map Nat.toUInt8).toArray := by
  induction l generalizing acc with
  | nil => simp
  | cons c r ih =>
    rw [List.foldl_cons, ih]
    show acc ++ [c.toUInt8].toArray ++ _ = _
    simp
theorem flat_one (z : Array Nat) : (Array.map (fun x2 : Nat => #[x2.toUInt8]) z).flatten.toList = (Array.map Nat.toUInt8 z).toList := by
  obtain ⟨l⟩ := z
  induction l with
  | nil => simp
  | cons c r ih => simpa using ih
theorem ascii_narrow {id : String} {self : Value} {x : Str} (hx : ∀ c ∈ x.cps, c < 128) (hz : x.cps.size ≤ sizeLine) : encodeNarrow id asciiCodec none self x = pure (x.cps.map Nat.toUInt8) := by
  have hb : ∀ c ∈ x.cps, asciiCodec.bad c = false := fun c hc => by
    have := hx c hc
    show decide (c ≥ 128) = false
    simp; omega
  unfold encodeNarrow
  simp only [Std.Legacy.Range.forIn_eq_forIn_range', Std.Legacy.Range.size]
  by_cases hn : x.cps.size = 0
  · have : x.cps = #[] := Array.eq_empty_of_size_eq_zero hn
    have h2 : (x.length - 0 + 1 - 1) / 1 = 0 := by show (x.cps.size - 0 + 1 - 1) / 1 = 0; omega
    rw [h2, this, List.range'_zero, List.forIn_nil]; simp
  · have hl : List.range' 0 ((x.length - 0 + 1 - 1) / 1) ≠ [] := by
      intro h
      have := congrArg List.length h
      rw [List.length_range'] at this
      simp only [List.length_nil] at this
      have h3 : x.length = x.cps.size := rfl
      omega
    rw [forIn_two (b := (x.cps.size, x.cps.map Nat.toUInt8, {})) _ hl]
    · rfl
    · intro i
      have hpos : 0 < x.cps.size := Nat.pos_of_ne_zero hn
      have e0 : x.cps[0]? = some x.cps[0] := by simp [hpos]
      have hf : Array.findIdx? asciiCodec.bad x.cps = none := by
        rw [Array.findIdx?_eq_none_iff]; intro c hc; simpa using hb c hc
      simp only [e0, hb _ (Array.getElem_mem hpos), Array.extract_size, Array.size_empty]
      simp [hf, sizeLine]
      have e1 : (Array.map (fun x2 => (asciiCodec.bytesOf x2).toArray) x.cps).flatten = Array.map Nat.toUInt8 x.cps := by
        have e2 : (fun x2 => (asciiCodec.bytesOf x2).toArray) = fun x2 : Nat => #[x2.toUInt8] := rfl
        rw [e2]
        apply Array.toList_inj.mp
        exact flat_one x.cps
      rw [e1]
    · intro i
      have e0 : x.cps[x.cps.size]? = none := by simp
      simp only [e0]
      rw [if_neg (by rw [Array.size_map]; omega)]

end

section
variable {prog : Program} {w : World} {A : Around} {E : Value → Shared → Prop} {s : Shared} {b : Array UInt8} {t : Tok} {Q : Value → Shared → Prop}
theorem translate_rule {tb : Array UInt8} {u : Tok} (hz : tb.size = 256) (hs : b.size ≤ sizeLine) (h : ∀ t' k, Q (.bytes (b.map fun c => tb.getD c.toNat c) t') { s with toks := k }) :
    wpAny (model prog w) A (call (.builtin "bytes.translate") [.bytes b t, .bytes tb u]) Q E s := by
  refine wpAny_call_entry slot_bytes_translate (typeIs_bytes _ _ _) entry_bytes_translate ?_ (args_bytes_translate _ _)
  show wpAny _ _ (Bytes.bytesLike _ (.bytes tb u) >>= fun r => _) _ _ s
  refine wpAny_bind (wpAny_of_eq KBd.like_eq ?_)
  have e1 : (tb.size != 256) = false := by rw [hz]; rfl
  simp only [e1, Bool.false_eq_true, if_false, pure_bind, List.head?_nil, Option.map_none]
  show wpAny _ _ (Bytes.payload (.bytes b t) >>= fun r => _) _ _ s
  refine wpAny_bind (wpAny_of_eq (a := b) rfl ?_)
  have e2 : (Array.filter (fun x => !(#[] : Array UInt8).contains x) b) = b := by simp
  simp only [e2]
  by_cases hq : (Array.map (fun c => tb.getD c.toNat c) b == b) = true
  · rw [if_pos hq]
    refine wpAny_bind (wpAny_rule ?_)
    have := h t s.toks
    rw [eq_of_beq hq] at this
    refine wpAny_bind ?_
    unfold Bytes.Kind.same
    refine wpAny_bind (wpAny_typeOf (typeIs_bytes _ b t) ?_)
    exact wpAny_pure (wpAny_pure ⟨_, rfl, this⟩)
  · rw [if_neg hq]
    exact wpAny_bind (wpAny_mkBytes (wpAny_pure ⟨_, rfl, h _ _⟩) (by simpa using hs))
theorem upper_rule (hs : b.size ≤ sizeLine) (h : ∀ t' k, Q (.bytes (b.toList.map Bytes.toUpper).toArray t') { s with toks := k }) :
    wpAny (model prog w) A (call (.builtin "bytes.upper") [.bytes b t]) Q E s := by
  refine wpAny_call_entry slot_bytes_upper (typeIs_bytes _ _ _) entry_bytes_upper ?_ (args_bytes_upper _)
  refine wpAny_bind (wpAny_of_eq (a := .bytes b t) rfl ?_)
  refine wpAny_bind (wpAny_of_eq (a := b) rfl ?_)
  exact wpAny_bind (wpAny_mkBytes (wpAny_pure ⟨_, rfl, h _ _⟩) (by simpa using hs))
/-- the text of hex(): two signs an octet -/
def hexText (b : Array UInt8) : List Nat := b.toList.flatMap fun c => [Bytes.hexDigit (c.toNat / 16), Bytes.hexDigit (c.toNat % 16)]
theorem hexText_len (b : Array UInt8) : (hexText b).length = 2 * b.toList.length := by
  unfold hexText
  generalize b.toList = l
  induction l with
  | nil => rfl
  | cons c r ih => rw [List.flatMap_cons, List.length_append, ih, List.length_cons]; simp; omega
theorem hex_fold (l : List (UInt8 × Nat)) (acc : Array Nat) : l.foldl (fun (out : Array Nat) (c : UInt8 × Nat) => (out.push (Bytes.hexDigit (c.1.toNat / 16))).push (Bytes.hexDigit (c.1.toNat % 16))) acc
    = acc ++ (l.flatMap fun c => [Bytes.hexDigit (c.1.toNat / 16), Bytes.hexDigit (c.1.toNat % 16)]).toArray := by
  induction l generalizing acc with
  | nil => simp
  | cons c r ih => rw [List.foldl_cons, ih]; simp
theorem hex_rule (hs : 2 * b.size ≤ sizeLine) (h : ∀ t' k, Q (.str ⟨(hexText b).toArray⟩ t') { s with toks := k }) :
    wpAny (model prog w) A (call (.builtin "bytes.hex") [.bytes b t]) Q E s := by
  refine wpAny_call_entry FB.slot_bytes_hex (typeIs_bytes _ _ _) FB.entry_bytes_hex ?_ (FB.args_bytes_hex_1 _)
  have e : Builtin.«bytes.hex» ⟨[.bytes b t], []⟩ = retStr ⟨b.toList.zipIdx.foldl (fun (out : Array Nat) (c : UInt8 × Nat) => (out.push (Bytes.hexDigit (c.1.toNat / 16))).push (Bytes.hexDigit (c.1.toNat % 16))) #[]⟩ := rfl
  have e2 : b.toList.zipIdx.flatMap (fun c => [Bytes.hexDigit (c.1.toNat / 16), Bytes.hexDigit (c.1.toNat % 16)]) = hexText b := by
    unfold hexText
    have : b.toList = b.toList.zipIdx.map (·.1) := by simp
    conv => rhs; rw [this]
    rw [List.flatMap_map]
  rw [e, hex_fold, e2]
  unfold retStr
  refine wpAny_bind (wpAny_mkStr (wpAny_pure ⟨_, rfl, ?_⟩) ?_)
  · have := h s.toks (s.toks + 1)
    simpa using this
  · show Array.size _ ≤ _
    have e3 : (hexText b).length = 2 * b.size := by rw [hexText_len, Array.length_toList]
    simp [e3]; exact hs
theorem road_ascii (id : String) (self : Value) (x : Str) : _codecs.encodeRoad id self x (Str.ofString "ascii") none = (do mkBytes (← _codecs.encodeNarrow id _codecs.asciiCodec none self x)) := by
  first | rfl | (unfold _codecs.encodeRoad; rfl) | kernel_rfl
theorem encode_tree2 (x : Str) (t u : Tok) : Builtin.«str.encode» ⟨[.str x t, .str (Str.ofString "ascii") u], []⟩ = (do ret (← _codecs.encodeRoad "str.encode" (.str x t) x (Str.ofString "ascii") none)) := by
  first | rfl | kernel_rfl
theorem encode_rule {x : Str} {u : Tok} (hx : ∀ c ∈ x.cps, c < 128) (hz : x.cps.size ≤ sizeLine) (h : ∀ t' k, Q (.bytes (x.cps.map Nat.toUInt8) t') { s with toks := k }) :
    wpAny (model prog w) A (call (.builtin "str.encode") [.str x t, .str (Str.ofString "ascii") u]) Q E s := by
  refine wpAny_call_entry F.slot_str_encode (typeIs_str _ _ _) F.entry_str_encode ?_ (F.args_str_encode_2 _ _)
  rw [encode_tree2, road_ascii, ascii_narrow hx hz]
  simp only [pure_bind]
  exact wpAny_bind (wpAny_mkBytes (wpAny_pure ⟨_, rfl, h _ _⟩) (by rw [Array.size_map]; exact hz))

theorem no_buffer_int : typeLookup (.type "int") "__buffer__" = pure none := by rw [typeLookup_type, builtinLookup_eq_fast]; kernel_rfl
theorem special_int {i : Int} {u : Tok} {name : PySem.Str} {r : Option Value} (h : typeLookup (.type "int") name = pure r) : specialOf (.int i u) name = pure r := by
  have e : specialOf (.int i u) name = typeLookup (.type "int") name := rfl
  rw [e, h]
theorem buffer_int {id : String} {i : Int} {u : Tok} : Bytes.buffer? id (.int i u) = pure none := by
  unfold Bytes.buffer?
  rw [special_int no_buffer_int]
  rfl
theorem find_rule {i : Int} {u : Tok} {j : Nat} (h0 : 0 ≤ i) (h1 : i < 256) (hf : Bytes.find? b #[i.toNat.toUInt8] 0 b.size = some j) (h : ∀ t' k, Q (.int (j : Int) t') { s with toks := k }) :
    wpAny (model prog w) A (call (.builtin "bytes.find") [.bytes b t, .int i u]) Q E s := by
  refine wpAny_call_entry slot_bytes_find (typeIs_bytes _ _ _) entry_bytes_find ?_ (args_bytes_find _ _)
  show wpAny _ _ (Bytes.searchArgs .bytes "find" ⟨[.bytes b t, .int i u], []⟩ >>= fun r => _) _ _ s
  refine wpAny_bind ?_
  unfold Bytes.searchArgs
  refine wpAny_bind (wpAny_of_eq (a := (.bytes b t, [.int i u])) rfl ?_)
  refine wpAny_bind (wpAny_of_eq (a := none) rfl ?_)
  refine wpAny_bind (wpAny_of_eq (a := none) rfl ?_)
  refine wpAny_bind (wpAny_of_eq buffer_int ?_)
  refine wpAny_bind (wpAny_of_eq (special_int F.slot_int_index.lookup) ?_)
  refine wpAny_bind (wpAny_of_eq (a := i) rfl ?_)
  have e1 : (decide (i < 0) || decide (i ≥ 256)) = false := by simp; omega
  simp only [e1, Bool.false_eq_true, if_false, pure_bind]
  refine wpAny_bind (wpAny_of_eq (a := b) rfl ?_)
  have hb : 1 ≤ b.size := by
    have h2 := List.mem_of_find?_eq_some hf
    simp at h2
    omega
  have e2 : Bytes.window b.size none none = (0, (b.size : Int)) := by
    unfold Bytes.window; simp; omega
  rw [e2]
  simp only []
  have e3 : ¬ ((b.size : Int) - 0 < ((#[i.toNat.toUInt8] : Array UInt8).size : Int)) := by simp; omega
  rw [if_neg e3]
  refine wpAny_pure ?_
  show wpAny _ _ (match Bytes.find? b #[i.toNat.toUInt8] 0 b.size with | some i => retInt ↑i | none => _) _ _ _
  rw [hf]
  exact wpAny_bind (wpAny_mkInt (wpAny_pure ⟨_, rfl, h _ _⟩))

theorem take_eq {id : String} : Bytes.takeBufferQuiet? id (.bytes b t) 0 = pure (some (b, none)) := by
  unfold Bytes.takeBufferQuiet? Bytes.takeBuffer?
  rw [KBy.special_eq KBy.look_buffer, KBy.own_buffer]
  simp only [pure_bind]
  show (do let r ← Sem.attempt (Bytes.buffer? id (Value.bytes b t) >>= fun r => pure (r.map (·, none))); _) = _
  rw [KBy.buffer_eq]
  rfl
theorem joinLetGo_rule {keep : List Value} {Q : Unit → Shared → Prop} : ∀ {taken : List (Value × Option Value)}, (∀ x ∈ taken, x.2 = none) → Q () s → wpAny (model prog w) A (Bytes.joinLetGo taken keep) Q E s
  | [], _, h => wpAny_pure h
  | (x, w) :: rest, hn, h => by
    have e : w = none := hn _ (List.mem_cons_self ..)
    subst e
    unfold Bytes.joinLetGo
    exact wpAny_bind (wpAny_letGo (joinLetGo_rule (fun y hy => hn y (List.mem_cons_of_mem _ hy)) h))
theorem forIn_list_inv {α β : Type} {M : Model} {f : α → β → Sem (ForInStep β)} {Q : β → Shared → Prop} (I : List α → β → Shared → Prop)
    (turn : ∀ x rest b s, I (x :: rest) b s → wpAny M A (f x b) (fun r s' => ∃ b', r = .yield b' ∧ I rest b' s') E s) (fin : ∀ b s, I [] b s → Q b s) : ∀ (l : List α) (b : β) (s : Shared), I l b s → wpAny M A (forIn l b f) Q E s
  | [], b, s, h => by rw [List.forIn_nil]; exact wpAny_pure (fin b s h)
  | x :: rest, b, s, h => by
    rw [List.forIn_cons]
    refine wpAny_bind (wpAny_mono (turn x rest b s h) (fun r s' hr => ?_) fun _ _ e => e)
    obtain ⟨b', rfl, h'⟩ := hr
    exact forIn_list_inv I turn fin rest b' s' h'
theorem joined_nil (parts : List (Array UInt8)) : Bytes.joined #[] parts = parts.foldl (· ++ ·) #[] := by
  unfold Bytes.joined
  have key : ∀ (l : List (Array UInt8)) (k : Nat) (acc : Array UInt8), (l.zipIdx k).foldl (fun out (x : Array UInt8 × Nat) => (if x.2 > 0 then out ++ #[] else out) ++ x.1) acc = l.foldl (· ++ ·) acc := by
    intro l
    induction l with
    | nil => intro k acc; rfl
    | cons p r ih => intro k acc; rw [List.zipIdx_cons, List.foldl_cons, List.foldl_cons, ih]; simp
  exact key parts 0 #[]
theorem sizes_foldl (parts : List (Array UInt8)) (acc : Nat) : parts.foldl (fun x1 x2 => x1 + x2.size) acc = acc + (parts.map (·.size)).sum := by
  induction parts generalizing acc with
  | nil => simp
  | cons p r ih => rw [List.foldl_cons, ih]; simp; omega
theorem size_foldl (parts : List (Array UInt8)) (acc : Array UInt8) : (parts.foldl (· ++ ·) acc).size = acc.size + (parts.map (·.size)).sum := by
  induction parts generalizing acc with
  | nil => simp
  | cons p r ih => rw [List.foldl_cons, ih]; simp; omega
theorem Paired.get {α β : Type} {F : α → β → Prop} : ∀ {l₁ : List α} {l₂ : List β}, PySem.Paired F l₁ l₂ → ∀ (i : Nat) (a : α), l₁[i]? = some a → ∃ b, l₂[i]? = some b ∧ F a b
  | _, _, .nil, i, a, h => by simp at h
  | _, _, .cons hf t, 0, a, h => ⟨_, rfl, by simp at h; exact h ▸ hf⟩
  | _, _, .cons hf t, i + 1, a, h => Paired.get t i a (by simpa using h)
theorem wpAny_cast {α : Type} {M : Model} {A : Around} {t t' : Sem α} {Q : α → Shared → Prop} {E : Value → Shared → Prop} {s : Shared} (e : t = t') (h : wpAny M A t' Q E s) : wpAny M A t Q E s := e ▸ h
theorem match_else {α : Type} {its : Array Value} {f : Value → α} {b : α} (h : ∀ x, its ≠ #[x]) : (match (generalizing := false) its with | #[x] => f x | _ => b) = b := by
  obtain ⟨l⟩ := its
  match l, h with
  | [], _ => rfl
  | [x], h => exact absurd rfl (h x)
  | _ :: _ :: _, _ => rfl
theorem join_rule {D : Addr} {its : Array Value} {ep : Nat} {o : Obj} (ho : s.heap.get? D = some o) (hc : o.cls = .type "list") (hd : o.data = .seq its ep) {parts : List (Array UInt8)}
    (hp : PySem.Paired (fun v p => ∃ t, v = Value.bytes p t) its.toList parts) (hz : (parts.map (·.size)).sum ≤ 100000) (h : ∀ t' k, Q (.bytes (parts.foldl (· ++ ·) #[]) t') { s with toks := k }) :
    wpAny (model prog w) A (call (.builtin "bytes.join") [.bytes #[] t, .ref D]) Q E s := by
  refine wpAny_call_entry slot_bytes_join (typeIs_bytes _ _ _) entry_bytes_join ?_ (args_bytes_join _ _)
  refine wpAny_bind (wpAny_of_eq (a := (.bytes #[] t, .ref D)) rfl ?_)
  show wpAny _ _ (Bytes.joinItems (.ref D) >>= fun r => _) _ _ s
  refine wpAny_bind ?_
  unfold Bytes.joinItems
  refine wpAny_bind (wpAny_typeOf (T := "list") ⟨o, ho, hc⟩ ?_)
  refine wpAny_pure ?_
  refine wpAny_bind (wpAny_seqItems ho hd ?_)
  have hlen := hp.length
  have single : ∀ x, its = #[x] → ∃ p t, x = Value.bytes p t ∧ Q x s := by
    intro x hx
    subst hx
    obtain ⟨p, hp1, t', rfl⟩ := Paired.get hp 0 x rfl
    refine ⟨p, t', rfl, ?_⟩
    have e : parts = [p] := by
      cases parts with
      | nil => simp at hp1
      | cons q r =>
        simp at hp1 hlen
        rw [hp1, hlen]
    have := h t' s.toks
    rw [e] at this
    simpa using this
  have hnot : (∃ x, its = #[x]) ∨ ((∀ x, its ≠ #[x])) := by
    by_cases q : ∃ x, its = #[x]
    · exact .inl q
    · exact .inr fun x e => q ⟨x, e⟩
  rcases hnot with ⟨x, rfl⟩ | hm
  · obtain ⟨p, t', rfl, hq⟩ := single x rfl
    refine wpAny_bind (wpAny_typeOf (typeIs_bytes _ p t') ?_)
    exact wpAny_bind (wpAny_rule (wpAny_pure ⟨_, rfl, hq⟩))
  clear single
  · dsimp only
    rw [if_pos (show (Bytes.Kind.bytes == Bytes.Kind.bytes) = true from rfl)]
    refine wpAny_cast (match_else hm) ?_
    show wpAny _ _ (forIn _ _ _ >>= fun r => _) _ _ s
    simp only [Std.Legacy.Range.forIn_eq_forIn_range', Std.Legacy.Range.size]
    have e9 : its.size = parts.length := by simpa using hlen
    refine wpAny_bind (forIn_list_inv (fun l (st : Array (Array UInt8) × List (Value × Option Value)) s' => s' = s ∧ ∃ i, i ≤ parts.length ∧ l = List.range' i (parts.length - i) ∧ st.1.toList = parts.take i ∧ (∀ x ∈ st.2, x.2 = none ∧ x.1.onHeap = false)) ?_ ?_ _ _ _ ⟨rfl, 0, Nat.zero_le _, by simp [e9], by simp, by simp⟩)
    · rintro x rest ⟨ps, taken⟩ s' ⟨rfl, i, hi, hl, hps, htk⟩
      have hlt : i < parts.length := by
        by_cases hq : i < parts.length
        · exact hq
        · rw [show parts.length - i = 0 by omega] at hl; simp at hl
      rw [show parts.length - i = (parts.length - (i + 1)) + 1 by omega, List.range'_succ] at hl
      obtain ⟨rfl, rfl⟩ := List.cons.inj hl
      simp only []
      refine wpAny_bind (wpAny_seqItems ho hd ?_)
      have hlt2 : x < its.toList.length := by rw [hlen]; exact hlt
      have hget : its.toList[x]? = some its.toList[x] := by simp
      obtain ⟨p, hp1, t', hv⟩ := Paired.get hp x _ hget
      have e1 : its.getD x Value.none = .bytes p t' := by
        rw [← hv]
        simp at hlt2
        simp [Array.getD, hlt2]
      simp only [e1]
      have e2 : (Bytes.Kind.bytes == Bytes.Kind.bytearray || taken.any fun x => x.fst.onHeap) = false := by
        have : (taken.any fun x => x.fst.onHeap) = false := by
          rw [List.any_eq_false]; intro y hy; simp [(htk y hy).2]
        rw [this]; rfl
      simp only [e2, Bool.false_eq_true, if_false]
      refine wpAny_bind (wpAny_holding (wpAny_of_eq take_eq ?_))
      simp only []
      refine wpAny_bind (wpAny_seqItems ho hd ?_)
      have e3 : (its.size != its.size) = false := by simp
      simp only [e3, Bool.false_eq_true, if_false]
      refine wpAny_pure ⟨_, rfl, rfl, x + 1, hlt, by simp, ?_, ?_⟩
      · show (ps.push p).toList = _
        rw [Array.toList_push, hps, List.take_add_one, hp1]; rfl
      · intro y hy
        rcases List.mem_append.mp hy with hy | hy
        · exact htk y hy
        · rw [List.mem_singleton.mp hy]; exact ⟨rfl, rfl⟩
    · rintro ⟨ps, taken⟩ s' ⟨rfl, i, hi, hl, hps, htk⟩
      have hi' : i = parts.length := by
        have := congrArg List.length hl
        simp at this; omega
      subst hi'
      rw [List.take_length] at hps
      simp only []
      refine wpAny_bind (wpAny_of_eq (a := #[]) rfl ?_)
      have e1 : Bytes.tooLong (Array.foldl (fun x1 x2 => x1 + x2.size) ((#[] : Array UInt8).size * (ps.size - 1)) ps) = false := by
        rw [← Array.foldl_toList, hps, sizes_foldl]
        exact KBy.tooLong_not (by simp; omega)
      simp only [e1, Bool.false_eq_true, if_false]
      rw [hps, joined_nil]
      refine wpAny_bind (wpAny_mkBytes ?_ (by rw [size_foldl, sizeLine_eq]; simp; omega))
      refine wpAny_bind (wpAny_holding (wpAny_point ?_))
      refine wpAny_bind (joinLetGo_rule (fun y hy => (htk y hy).1) ?_)
      exact wpAny_pure ⟨_, rfl, h _ _⟩
end
theorem hexText_lt (b : Array UInt8) : ∀ c ∈ (⟨(hexText b).toArray⟩ : PySem.Str).cps, c < 128 := by
  intro c hc
  have hc : c ∈ hexText b := by simpa using hc
  obtain ⟨x, _, hx⟩ := List.mem_flatMap.mp hc
  have h1 := x.toNat_lt
  simp at hx
  rcases hx with rfl | rfl
  · exact hex_lt ⟨x.toNat / 16, by omega⟩
  · exact hex_lt ⟨x.toNat % 16, by omega⟩
theorem hexText_up (b : Array UInt8) : KBw.bInts (((⟨(hexText b).toArray⟩ : PySem.Str).cps.map Nat.toUInt8).toList.map Bytes.toUpper).toArray = (KBw.bInts b).flatMap hex2 := by
  unfold KBw.bInts hexText
  simp only [Array.toList_map, List.map_map, List.map_flatMap, List.flatMap_map]
  congr 1
  funext x
  have h1 := x.toNat_lt
  have e1 := hexUp ⟨x.toNat / 16, by omega⟩
  have e2 := hexUp ⟨x.toNat % 16, by omega⟩
  simp only at e1 e2
  simp only [List.map_cons, List.map_nil, hex2]
  simp only [Function.comp]
  rw [e1, e2]
  simp
end
section
open PySem PySem.W PyProof.Rows PySem.Calls


theorem b64_spec {w : World} {loose : List Str} {mean : ExcName → Option Value} {mg mb : Str → Option Value} {A : Around} {s : Shared} {Q E : Value → Shared → Prop} {b : Array UInt8} {t : Tok} {ks : List Int}
    (O : Ok w loose mean mg mb s.heap) (hdp : A.depth + 3 < recursionLimit) (hh : A.handled = none) (hb : KBw.bInts b = ks) (hks : ks.length ≤ 1000)
    (ret : ∀ bb t' h' tk, Enc AL64 6 ks (KBw.bInts bb) → (KBw.bInts bb).length = 4 * ((ks.length + 2) / 3) → (∀ b o, s.heap.get? b = some o → h'.get? b = some o) → Q (.bytes bb t') { s with heap := h', toks := tk }) :
    wpAny (model PR w) A (call (.ref 60) [.bytes b t]) Q E s := by
  w_top off
  k_with_none
  (k_with "getMethod bytes" => (first
  | (with_reducible refine KBd.method_of _ (typeIs_bytes _ _ _) slot_bytes_translate type_bytes_translate KBd.noRef ?_)
  | (with_reducible refine KBd.method_of _ (typeIs_bytes _ _ _) slot_bytes_upper type_bytes_upper KBd.noRef ?_)
  | (with_reducible refine KBd.method_of _ (typeIs_bytes _ _ _) slot_bytes_join type_bytes_join KBd.noRef ?_)
  | (with_reducible refine KBd.method_of _ (typeIs_bytes _ _ _) slot_bytes_find type_bytes_find KBd.noRef ?_)
  | (with_reducible refine KBd.method_of _ (typeIs_bytes _ _ _) FB.slot_bytes_hex FB.type_bytes_hex KBd.noRef ?_)))
  (k_with "call ref" => ((with_reducible show wpAny _ _ (call (Value.ref 28) _ _) _ _ _); (refine buffer_spec (Ok.keeps ⟨by k_asm, by k_asm, by k_asm⟩ (Fr.keep (by k_asm))) (by k_room) ?_); intro h' tk' hk'; (have F' := Fr.keeps (by k_asm) hk'); (have N' := News.grown (by k_asm) hk'); clear hk'; (try k_sweep)))
  (k_with "call ref" => ((with_reducible show wpAny _ _ (call (Value.ref 43) _ _) _ _ _); (refine b2a_spec (Ok.keeps ⟨by k_asm, by k_asm, by k_asm⟩ (Fr.keep (by k_asm))) (by k_room) (by assumption) (by assumption) (by assumption) ?_); intro bb' t' h' tk' en' el' hk'; (have F' := Fr.keeps (by k_asm) hk'); (have N' := News.grown (by k_asm) hk'); clear hk'; (try k_sweep)))
  (have kfill0 : (Mine.hd.heap_39 = Mine.hd.heap_39) ∧ PySem.Challenge.rw_mr0056_01 = PySem.Challenge.rw_mr0056_01 := by (k_fill; exact ⟨rfl, rfl⟩)); clear kfill0
  obtain ⟨X, T, C⟩ := O
  refine wpAny_call ?_
  refine' enterK (binds := [(Str.ofString "s", .bytes b t), (Str.ofString "altchars", .none)]) X T C ?k6 ?k7 ?k8 ?k9 ?kB ?_ ?c5 ?c2 ?c3 ?c4
  (case k6 => k_is)
  (case k7 => k_is)
  (case k8 => k_room)
  (case k9 => first | exact BindsTo.of_eq rfl | exact binds_K (by k_in) rfl (by k_is) rfl rfl rfl)
  (case c5 => decide)
  (case kB => exact locs rfl)
  (case c2 => exact rfl)
  (case c3 => exact rfl)
  (case c4 => exact rfl)
  clear X T C
  intro g L' h₁ hk hsz X T C F N
  simp only [List.reverse_cons, List.reverse_nil, List.nil_append, List.cons_append] at F
  k_fold
  k_steps
  exact ret _ _ _ _ (by assumption) (by assumption) (fun b o e => Fr.keep (by assumption) b o (hk b o e))

theorem size_of_len {b : Array UInt8} {n : Nat} (h : (KBw.bInts b).length = n) (hn : n ≤ 100000) : b.size ≤ sizeLine := by
  rw [KBw.ints_length] at h; rw [sizeLine_eq]; omega

theorem url_spec {w : World} {loose : List Str} {mean : ExcName → Option Value} {mg mb : Str → Option Value} {A : Around} {s : Shared} {Q E : Value → Shared → Prop} {b : Array UInt8} {t : Tok} {ks : List Int}
    (O : Ok w loose mean mg mb s.heap) (hdp : A.depth + 4 < recursionLimit) (hh : A.handled = none) (hb : KBw.bInts b = ks) (hks : ks.length ≤ 1000)
    (ret : ∀ bb t' h' tk, Enc ALurl 6 ks (KBw.bInts bb) → (KBw.bInts bb).length = 4 * ((ks.length + 2) / 3) → (∀ b o, s.heap.get? b = some o → h'.get? b = some o) → Q (.bytes bb t') { s with heap := h', toks := tk }) :
    wpAny (model PR w) A (call (.ref 67) [.bytes b t]) Q E s := by
  w_top off
  k_with_none
  (k_with "getMethod bytes" => (first
  | (with_reducible refine KBd.method_of _ (typeIs_bytes _ _ _) slot_bytes_translate type_bytes_translate KBd.noRef ?_)
  | (with_reducible refine KBd.method_of _ (typeIs_bytes _ _ _) slot_bytes_upper type_bytes_upper KBd.noRef ?_)
  | (with_reducible refine KBd.method_of _ (typeIs_bytes _ _ _) slot_bytes_join type_bytes_join KBd.noRef ?_)
  | (with_reducible refine KBd.method_of _ (typeIs_bytes _ _ _) slot_bytes_find type_bytes_find KBd.noRef ?_)
  | (with_reducible refine KBd.method_of _ (typeIs_bytes _ _ _) FB.slot_bytes_hex FB.type_bytes_hex KBd.noRef ?_)))
  (k_with "call ref" => ((with_reducible show wpAny _ _ (call (Value.ref 28) _ _) _ _ _); (refine buffer_spec (Ok.keeps ⟨by k_asm, by k_asm, by k_asm⟩ (Fr.keep (by k_asm))) (by k_room) ?_); intro h' tk' hk'; (have F' := Fr.keeps (by k_asm) hk'); (have N' := News.grown (by k_asm) hk'); clear hk'; (try k_sweep)))
  (k_with "call ref" => ((with_reducible show wpAny _ _ (call (Value.ref 43) _ _) _ _ _); (refine b2a_spec (Ok.keeps ⟨by k_asm, by k_asm, by k_asm⟩ (Fr.keep (by k_asm))) (by k_room) (by assumption) (by assumption) (by assumption) ?_); intro bb' t' h' tk' en' el' hk'; (have F' := Fr.keeps (by k_asm) hk'); (have N' := News.grown (by k_asm) hk'); clear hk'; (try k_sweep)))
  (k_with "call ref" => ((with_reducible show wpAny _ _ (call (Value.ref 60) _ _) _ _ _); (refine b64_spec (Ok.keeps ⟨by k_asm, by k_asm, by k_asm⟩ (Fr.keep (by k_asm))) (by k_room) (by assumption) (by assumption) (by assumption) ?_); intro bb' t' h' tk' en' el' hk'; (have F' := Fr.keeps (by k_asm) hk'); (have N' := News.grown (by k_asm) hk'); clear hk'; (try k_sweep)))
  (k_with "call builtin:bytes.translate" => ((refine translate_rule (by decide +kernel) (size_of_len (by assumption) (by omega)) ?_); intro _ _))
  (have kfill0 : (Mine.hd.heap_39 = Mine.hd.heap_39) ∧ PySem.Challenge.rw_mr0056_01 = PySem.Challenge.rw_mr0056_01 := by (k_fill; exact ⟨rfl, rfl⟩)); clear kfill0
  obtain ⟨X, T, C⟩ := O
  refine wpAny_call ?_
  refine' enterK (binds := [(Str.ofString "s", .bytes b t)]) X T C ?k6 ?k7 ?k8 ?k9 ?kB ?_ ?c5 ?c2 ?c3 ?c4
  (case k6 => k_is)
  (case k7 => k_is)
  (case k8 => k_room)
  (case k9 => first | exact BindsTo.of_eq rfl | exact binds_K (by k_in) rfl (by k_is) rfl rfl rfl)
  (case c5 => decide)
  (case kB => exact locs rfl)
  (case c2 => exact rfl)
  (case c3 => exact rfl)
  (case c4 => exact rfl)
  clear X T C
  intro g L' h₁ hk hsz X T C F N
  simp only [List.reverse_cons, List.reverse_nil, List.nil_append, List.cons_append] at F
  k_fold
  k_steps
  rename Enc _ _ _ _ => en
  rename List.length _ = _ => el
  refine ret _ _ _ _ ?_ ?_ (fun b o e => Fr.keep (by assumption) b o (hk b o e))
  · rw [url_of_table (by decide +kernel)]; exact enc_url en
  · rw [url_of_table (by decide +kernel), List.length_map]; exact el


theorem noRefS {s : Shared} {x : PySem.Str} {t : Tok} : ∀ a, Value.str x t = .ref a → ∃ o, s.heap.get? a = some o ∧ o.dict = none := fun _ e => nomatch e
theorem hexText_size (b : Array UInt8) : (⟨(hexText b).toArray⟩ : PySem.Str).cps.size = 2 * b.size := by
  show (hexText b).toArray.size = _
  rw [List.size_toArray, hexText_len, Array.length_toList]
theorem hex_spec {w : World} {loose : List Str} {mean : ExcName → Option Value} {mg mb : Str → Option Value} {A : Around} {s : Shared} {Q E : Value → Shared → Prop} {b : Array UInt8} {t : Tok} 
    (O : Ok w loose mean mg mb s.heap) (hdp : A.depth + 2 < recursionLimit) (hh : A.handled = none) (hks : b.size ≤ 1000)
    (ret : ∀ t' h' tk, (∀ b o, s.heap.get? b = some o → h'.get? b = some o) → Q (.bytes ((⟨(hexText b).toArray⟩ : PySem.Str).cps.map Nat.toUInt8) t') { s with heap := h', toks := tk }) :
    wpAny (model PR w) A (call (.ref 52) [.bytes b t]) Q E s := by
  w_top off
  k_with_none
  (k_with "getMethod bytes" => (first
  | (with_reducible refine KBd.method_of _ (typeIs_bytes _ _ _) slot_bytes_translate type_bytes_translate KBd.noRef ?_)
  | (with_reducible refine KBd.method_of _ (typeIs_bytes _ _ _) slot_bytes_upper type_bytes_upper KBd.noRef ?_)
  | (with_reducible refine KBd.method_of _ (typeIs_bytes _ _ _) slot_bytes_join type_bytes_join KBd.noRef ?_)
  | (with_reducible refine KBd.method_of _ (typeIs_bytes _ _ _) slot_bytes_find type_bytes_find KBd.noRef ?_)
  | (with_reducible refine KBd.method_of _ (typeIs_bytes _ _ _) FB.slot_bytes_hex FB.type_bytes_hex KBd.noRef ?_)))
  (k_with "call ref" => ((with_reducible show wpAny _ _ (call (Value.ref 28) _ _) _ _ _); (refine buffer_spec (Ok.keeps ⟨by k_asm, by k_asm, by k_asm⟩ (Fr.keep (by k_asm))) (by k_room) ?_); intro h' tk' hk'; (have F' := Fr.keeps (by k_asm) hk'); (have N' := News.grown (by k_asm) hk'); clear hk'; (try k_sweep)))
  (k_with "call ref" => ((with_reducible show wpAny _ _ (call (Value.ref 43) _ _) _ _ _); (refine b2a_spec (Ok.keeps ⟨by k_asm, by k_asm, by k_asm⟩ (Fr.keep (by k_asm))) (by k_room) (by assumption) (by assumption) (by assumption) ?_); intro bb' t' h' tk' en' el' hk'; (have F' := Fr.keeps (by k_asm) hk'); (have N' := News.grown (by k_asm) hk'); clear hk'; (try k_sweep)))
  (k_with "call ref" => ((with_reducible show wpAny _ _ (call (Value.ref 60) _ _) _ _ _); (refine b64_spec (Ok.keeps ⟨by k_asm, by k_asm, by k_asm⟩ (Fr.keep (by k_asm))) (by k_room) (by assumption) (by assumption) (by assumption) ?_); intro bb' t' h' tk' en' el' hk'; (have F' := Fr.keeps (by k_asm) hk'); (have N' := News.grown (by k_asm) hk'); clear hk'; (try k_sweep)))
  (k_with "call builtin:bytes.translate" => ((refine translate_rule (by decide +kernel) (size_of_len (by assumption) (by omega)) ?_); intro _ _))
  (k_with "call type:type" => ((with_reducible show wpAny _ _ (call (Value.type "type") [Value.int _ _]) _ _ _); refine call_type_of (typeIs_int _ _ _) (by decide +kernel) ?_))
  (k_with "compareOp IsNot" => ((with_reducible show wpAny _ _ (compareOp CmpOp.IsNot (Value.type _) (Value.type _)) _ _ _); first | refine wpAny_isNot_self (by rfl) ?_ | refine wpAny_isNot_other (by rfl) (by intro x; exact absurd (Value.type.inj x) (by decide)) ?_))
  (k_with "compareOp Is ref ref" => ((with_reducible show wpAny _ _ (compareOp CmpOp.Is (Value.ref 44) (Value.ref 44)) _ _ _); refine wpAny_is_ref_self ?_))
  (k_with "call builtin:bytes.hex" => ((refine hex_rule (by rw [sizeLine_eq]; omega) ?_); intro _ _))
  (k_with "getMethod str" => (with_reducible refine getMethod_builtin (typeIs_str _ _ _) F.plainAttrs_str F.slot_str_encode F.type_str_encode noRefS ?_))
  (k_with "call builtin:str.encode" => ((refine encode_rule (hexText_lt _) (by rw [hexText_size, sizeLine_eq]; omega) ?_); intro _ _))
  (have kfill0 : (Mine.hd.heap_39 = Mine.hd.heap_39) ∧ PySem.Challenge.rw_mr0056_01 = PySem.Challenge.rw_mr0056_01 := by (k_fill; exact ⟨rfl, rfl⟩)); clear kfill0
  obtain ⟨X, T, C⟩ := O
  refine wpAny_call ?_
  refine' enterK (binds := [(Str.ofString "data", .bytes b t), (Str.ofString "sep", .ref 44), (Str.ofString "bytes_per_sep", .int 1 229)]) X T C ?k6 ?k7 ?k8 ?k9 ?kB ?_ ?c5 ?c2 ?c3 ?c4
  (case k6 => k_is)
  (case k7 => k_is)
  (case k8 => k_room)
  (case k9 => first | exact BindsTo.of_eq rfl | exact binds_K (by k_in) rfl (by k_is) rfl rfl rfl)
  (case c5 => decide)
  (case kB => exact locs rfl)
  (case c2 => exact rfl)
  (case c3 => exact rfl)
  (case c4 => exact rfl)
  clear X T C
  intro g L' h₁ hk hsz X T C F N
  simp only [List.reverse_cons, List.reverse_nil, List.nil_append, List.cons_append] at F
  k_fold
  k_steps
  exact ret _ _ _ (fun b o e => Fr.keep (by assumption) b o (hk b o e))

theorem b16_spec {w : World} {loose : List Str} {mean : ExcName → Option Value} {mg mb : Str → Option Value} {A : Around} {s : Shared} {Q E : Value → Shared → Prop} {b : Array UInt8} {t : Tok} {ks : List Int}
    (O : Ok w loose mean mg mb s.heap) (hdp : A.depth + 3 < recursionLimit) (hh : A.handled = none) (hb : KBw.bInts b = ks) (hks : ks.length ≤ 1000)
    (ret : ∀ bb t' h' tk, Enc AL16 4 ks (KBw.bInts bb) → (KBw.bInts bb).length = 2 * ks.length → (∀ b o, s.heap.get? b = some o → h'.get? b = some o) → Q (.bytes bb t') { s with heap := h', toks := tk }) :
    wpAny (model PR w) A (call (.ref 74) [.bytes b t]) Q E s := by
  w_top off
  k_with_none
  (k_with "getMethod bytes" => (first
  | (with_reducible refine KBd.method_of _ (typeIs_bytes _ _ _) slot_bytes_translate type_bytes_translate KBd.noRef ?_)
  | (with_reducible refine KBd.method_of _ (typeIs_bytes _ _ _) slot_bytes_upper type_bytes_upper KBd.noRef ?_)
  | (with_reducible refine KBd.method_of _ (typeIs_bytes _ _ _) slot_bytes_join type_bytes_join KBd.noRef ?_)
  | (with_reducible refine KBd.method_of _ (typeIs_bytes _ _ _) slot_bytes_find type_bytes_find KBd.noRef ?_)
  | (with_reducible refine KBd.method_of _ (typeIs_bytes _ _ _) FB.slot_bytes_hex FB.type_bytes_hex KBd.noRef ?_)))
  (k_with "call ref" => ((with_reducible show wpAny _ _ (call (Value.ref 28) _ _) _ _ _); (refine buffer_spec (Ok.keeps ⟨by k_asm, by k_asm, by k_asm⟩ (Fr.keep (by k_asm))) (by k_room) ?_); intro h' tk' hk'; (have F' := Fr.keeps (by k_asm) hk'); (have N' := News.grown (by k_asm) hk'); clear hk'; (try k_sweep)))
  (k_with "call ref" => ((with_reducible show wpAny _ _ (call (Value.ref 43) _ _) _ _ _); (refine b2a_spec (Ok.keeps ⟨by k_asm, by k_asm, by k_asm⟩ (Fr.keep (by k_asm))) (by k_room) (by assumption) (by assumption) (by assumption) ?_); intro bb' t' h' tk' en' el' hk'; (have F' := Fr.keeps (by k_asm) hk'); (have N' := News.grown (by k_asm) hk'); clear hk'; (try k_sweep)))
  (k_with "call ref" => ((with_reducible show wpAny _ _ (call (Value.ref 60) _ _) _ _ _); (refine b64_spec (Ok.keeps ⟨by k_asm, by k_asm, by k_asm⟩ (Fr.keep (by k_asm))) (by k_room) (by assumption) (by assumption) (by assumption) ?_); intro bb' t' h' tk' en' el' hk'; (have F' := Fr.keeps (by k_asm) hk'); (have N' := News.grown (by k_asm) hk'); clear hk'; (try k_sweep)))
  (k_with "call builtin:bytes.translate" => ((refine translate_rule (by decide +kernel) (size_of_len (by assumption) (by omega)) ?_); intro _ _))
  (k_with "call type:type" => ((with_reducible show wpAny _ _ (call (Value.type "type") [Value.int _ _]) _ _ _); refine call_type_of (typeIs_int _ _ _) (by decide +kernel) ?_))
  (k_with "compareOp IsNot" => ((with_reducible show wpAny _ _ (compareOp CmpOp.IsNot (Value.type _) (Value.type _)) _ _ _); first | refine wpAny_isNot_self (by rfl) ?_ | refine wpAny_isNot_other (by rfl) (by intro x; exact absurd (Value.type.inj x) (by decide)) ?_))
  (k_with "compareOp Is ref ref" => ((with_reducible show wpAny _ _ (compareOp CmpOp.Is (Value.ref 44) (Value.ref 44)) _ _ _); refine wpAny_is_ref_self ?_))
  (k_with "call builtin:bytes.hex" => ((refine hex_rule (by rw [sizeLine_eq]; omega) ?_); intro _ _))
  (k_with "getMethod str" => (with_reducible refine getMethod_builtin (typeIs_str _ _ _) F.plainAttrs_str F.slot_str_encode F.type_str_encode noRefS ?_))
  (k_with "call builtin:str.encode" => ((refine encode_rule (hexText_lt _) (by rw [hexText_size, sizeLine_eq]; omega) ?_); intro _ _))
  (k_with "call ref" => ((with_reducible show wpAny _ _ (call (Value.ref 52) _ _) _ _ _); (refine hex_spec (Ok.keeps ⟨by k_asm, by k_asm, by k_asm⟩ (Fr.keep (by k_asm))) (by k_room) (by assumption) (by assumption) ?_); intro t' h' tk' hk'; (have F' := Fr.keeps (by k_asm) hk'); (have N' := News.grown (by k_asm) hk'); clear hk'; (try k_sweep)))
  (k_with "call builtin:bytes.upper" => ((refine upper_rule (by rw [Array.size_map, hexText_size, sizeLine_eq]; omega) ?_); intro _ _))
  (have kfill0 : (Mine.hd.heap_39 = Mine.hd.heap_39) ∧ PySem.Challenge.rw_mr0056_01 = PySem.Challenge.rw_mr0056_01 := by (k_fill; exact ⟨rfl, rfl⟩)); clear kfill0
  obtain ⟨X, T, C⟩ := O
  have hks2 : b.size ≤ 1000 := by rw [← hb, KBw.ints_length] at hks; exact hks
  refine wpAny_call ?_
  refine' enterK (binds := [(Str.ofString "s", .bytes b t)]) X T C ?k6 ?k7 ?k8 ?k9 ?kB ?_ ?c5 ?c2 ?c3 ?c4
  (case k6 => k_is)
  (case k7 => k_is)
  (case k8 => k_room)
  (case k9 => first | exact BindsTo.of_eq rfl | exact binds_K (by k_in) rfl (by k_is) rfl rfl rfl)
  (case c5 => decide)
  (case kB => exact locs rfl)
  (case c2 => exact rfl)
  (case c3 => exact rfl)
  (case c4 => exact rfl)
  clear X T C
  intro g L' h₁ hk hsz X T C F N
  simp only [List.reverse_cons, List.reverse_nil, List.nil_append, List.cons_append] at F
  k_fold
  k_steps
  refine ret _ _ _ _ ?_ ?_ (fun b o e => Fr.keep (by assumption) b o (hk b o e))
  · rw [hexText_up, hb]; exact enc_hex (fun c hc => KBw.ints_in (hb ▸ hc))
  · rw [hexText_up, hb]; exact hex2_len ks
end
section
open PySem PySem.W PyProof.Rows

inductive Tree where
  | leaf (b : List Int)
  | box (k : Nat) (ts : List Tree)

def slen (k n : Nat) : Nat := if k = 2 then 2 * n else 4 * ((n + 2) / 3)
def ALk (k : Nat) : List Int := if k = 0 then AL64 else if k = 1 then ALurl else AL16
def wid (k : Nat) : Nat := if k = 2 then 4 else 6
def Signs (k : Nat) (inner signs : List Int) : Prop := Enc (ALk k) (wid k) inner signs ∧ signs.length = slen k inner.length

/-- the heap bears the tree at v; its lists lie where p says -/
def TreeAt (p : Addr → Prop) (h : Heap) : Nat → Value → Tree → Prop
  | 0, v, .leaf b => ∃ a t, v = .bytes a t ∧ KBw.bInts a = b
  | _ + 1, v, .leaf b => ∃ a t, v = .bytes a t ∧ KBw.bInts a = b
  | 0, _, .box _ _ => False
  | n + 1, v, .box k ts => ∃ x vs t e, v = .ref x ∧ p x ∧ h.get? x = some (listOf (.int (k : Int) t :: vs).toArray e) ∧ PySem.Paired (TreeAt p h n) vs ts

def wlen : Nat → Tree → Nat
  | 0, .leaf b => 2 + b.length
  | _ + 1, .leaf b => 2 + b.length
  | 0, .box _ _ => 0
  | n + 1, .box k ts => 3 + slen k ((ts.map (wlen n)).sum)

def Fits : Nat → Tree → Prop
  | 0, .leaf b => b.length < 256 ∧ ∀ c ∈ b, 0 ≤ c ∧ c < 256
  | _ + 1, .leaf b => b.length < 256 ∧ ∀ c ∈ b, 0 ≤ c ∧ c < 256
  | 0, .box _ _ => False
  | n + 1, .box k ts => k < 3 ∧ ts.length < 256 ∧ slen k ((ts.map (wlen n)).sum) < 256 ∧ ∀ t ∈ ts, Fits n t

def Writes : Nat → Tree → List Int → Prop
  | 0, .leaf b, ks => ks = 0 :: (b.length : Int) :: b
  | _ + 1, .leaf b, ks => ks = 0 :: (b.length : Int) :: b
  | 0, .box _ _, _ => False
  | n + 1, .box k ts, ks => ∃ (parts : List (List Int)) (signs : List Int), PySem.Paired (Writes n) ts parts ∧ Signs k parts.flatten signs ∧ ks = ((k : Int) + 1) :: (ts.length : Int) :: (signs.length : Int) :: signs

theorem Paired.imp {α β : Type} {F G : α → β → Prop} (h : ∀ a b, F a b → G a b) : ∀ {l₁ : List α} {l₂ : List β}, PySem.Paired F l₁ l₂ → PySem.Paired G l₁ l₂
  | _, _, .nil => .nil
  | _, _, .cons hf t => .cons (h _ _ hf) (Paired.imp h t)

theorem TreeAt.leaf_iff {p : Addr → Prop} {h : Heap} {n : Nat} {v : Value} {b : List Int} : TreeAt p h n v (.leaf b) ↔ ∃ a t, v = .bytes a t ∧ KBw.bInts a = b := by cases n <;> exact Iff.rfl
theorem Fits.leaf_iff {n : Nat} {b : List Int} : Fits n (.leaf b) ↔ b.length < 256 ∧ ∀ c ∈ b, 0 ≤ c ∧ c < 256 := by cases n <;> exact Iff.rfl
theorem Writes.leaf_iff {n : Nat} {b ks : List Int} : Writes n (.leaf b) ks ↔ ks = 0 :: (b.length : Int) :: b := by cases n <;> exact Iff.rfl
theorem wlen_leaf {n : Nat} {b : List Int} : wlen n (.leaf b) = 2 + b.length := by cases n <;> rfl

theorem TreeAt.mono {p q : Addr → Prop} {h h' : Heap} (hk : ∀ b o, p b → h.get? b = some o → q b ∧ h'.get? b = some o) : ∀ n v t, TreeAt p h n v t → TreeAt q h' n v t
  | 0, _, .leaf _, x => x
  | _ + 1, _, .leaf _, x => x
  | 0, _, .box _ _, x => x
  | n + 1, v, .box k ts, ⟨x, vs, t, e, hv, hp, ho, hs⟩ => ⟨x, vs, t, e, hv, (hk _ _ hp ho).1, (hk _ _ hp ho).2, Paired.imp (fun a b => TreeAt.mono hk n a b) hs⟩

theorem Paired.lens {F : Tree → List Int → Prop} {f : Tree → Nat} (h : ∀ t ks, F t ks → ks.length = f t) : ∀ {ts : List Tree} {ps : List (List Int)}, PySem.Paired F ts ps → ps.flatten.length = (ts.map f).sum
  | _, _, .nil => rfl
  | _, _, .cons hf t => by rw [List.flatten_cons, List.length_append, h _ _ hf, Paired.lens h t, List.map_cons, List.sum_cons]
theorem Writes.length : ∀ n t ks, Writes n t ks → ks.length = wlen n t
  | 0, .leaf _, ks, x => by have x : ks = _ := x; rw [x]; simp [wlen]; omega
  | _ + 1, .leaf _, ks, x => by have x : ks = _ := x; rw [x]; simp [wlen]; omega
  | 0, .box _ _, _, x => x.elim
  | n + 1, .box k ts, ks, ⟨parts, signs, hp, hs, e⟩ => by
    rw [e]
    have h1 := Paired.lens (fun t ks => Writes.length n t ks) hp
    have h2 := hs.2
    rw [h1] at h2
    simp only [List.length_cons, wlen, h2]; omega
theorem flat_ints (parts : List (Array UInt8)) : KBw.bInts (parts.foldl (· ++ ·) #[]) = (parts.map KBw.bInts).flatten := by
  have key : ∀ (l : List (Array UInt8)) (acc : Array UInt8), KBw.bInts (l.foldl (· ++ ·) acc) = KBw.bInts acc ++ (l.map KBw.bInts).flatten := by
    intro l
    induction l with
    | nil => intro acc; simp
    | cons p r ih => intro acc; rw [List.foldl_cons, ih, KBw.ints_app rfl rfl]; simp
  rw [key]; rfl
theorem Paired.mapR {α β γ : Type} {F : α → γ → Prop} {f : β → γ} : ∀ {l₁ : List α} {l₂ : List β}, PySem.Paired (fun a b => F a (f b)) l₁ l₂ → PySem.Paired F l₁ (l₂.map f)
  | _, _, .nil => .nil
  | _, _, .cons h t => .cons h (Paired.mapR t)
theorem sizes_flat (parts : List (Array UInt8)) : (parts.map (·.size)).sum = ((parts.map KBw.bInts).flatten).length := by
  induction parts with
  | nil => rfl
  | cons p r ih => simp [ih, KBw.ints_length]
theorem Paired.get2 {α β : Type} {F : α → β → Prop} : ∀ {l₁ : List α} {l₂ : List β}, PySem.Paired F l₁ l₂ → ∀ (i : Nat) (a : α), l₁[i]? = some a → ∃ b, l₂[i]? = some b ∧ F a b
  | _, _, .nil, i, a, h => by simp at h
  | _, _, .cons hf t, 0, a, h => ⟨_, rfl, by simp at h; exact h ▸ hf⟩
  | _, _, .cons hf t, i + 1, a, h => Paired.get2 t i a (by simpa using h)
theorem slen_le {k n : Nat} (h : slen k n < 256) : n < 256 := by unfold slen at h; split at h <;> omega
theorem writes_box {n k : Nat} {ts : List Tree} {parts : List (List Int)} {inner signs out : List Int} {a b : Int} (hp : PySem.Paired (Writes n) ts parts) (hin : parts.flatten = inner) (en : Enc (ALk k) (wid k) inner signs) (el : signs.length = slen k inner.length)
    (ha : a = (k : Int) + 1) (hb : b = (ts.length : Int)) (ho : out = [a, b, (signs.length : Int)] ++ signs) : Writes (n + 1) (.box k ts) out :=
  ⟨parts, signs, hp, ⟨hin ▸ en, hin ▸ el⟩, by rw [ho, ha, hb]; rfl⟩
end
section
open PySem PySem.W PyProof.Rows PySem.Calls
section
open LCg LCt
variable {prog : Program} {w : World} {A : Around} {s : Shared} {h₀ : Heap} {L : Addr} {m : Str → Option Value} {env : Env} {ct elt : Expr} {x : Str} {scope : Scope} {cl : List (Str × Addr)} {S : List (Addr × Obj) → Prop} {P : Nat → Value → Prop} {Fin : List Value → List (Addr × Obj) → Prop}
/-- the source of a comprehension is a bytes object -/
def SrcB (prog : Program) (w : World) (A : Around) (h₀ : Heap) (L : Addr) (m : Str → Option Value) (env : Env) (ct elt : Expr) (x : Str) (scope : Scope) (cl : List (Str × Addr)) (Fin : Shared → List Value → List (Addr × Obj) → Prop) (xv : Value) (s₁ : Shared) : Prop :=
  ∃ b t news, xv = .bytes b t ∧ A.handled = none ∧ Fr h₀ L s₁.heap m ∧ News h₀ L s₁.heap news ∧ b.size ≤ sizeLine ∧
    ∀ s₂ : Shared, (∃ h, s₂ = { s₁ with heap := h }) → CompRestT prog w A h₀ L m env ct elt x scope cl s₂ (fun _ => True) (fun i v => ∃ n t, b[i]? = some n ∧ v = .int (n.toNat : Int) t) (Fin s₂) b.size 0 [] news
theorem ListComp_TB {E : Value → Shared → Prop} {iter : Expr} {px : Pos} {pos : Pos} {Q : Value → Shared → Prop} (F₀ : Fr h₀ L s.heap m)
    (hclos : closureFor scope env = pure cl) (hcell : ∀ y ∈ scope.names, y.2 ≠ .cell) (hkind : scope.kind = .function)
    (hnames : ∀ y ∈ scope.names, y.2 = .local → scope.names.lookup y.1 = some .local) (hx : scope.names.lookup x = some .local)
    (h : wpAny (model prog w) A (eval iter env) (SrcB prog w A h₀ L m env ct elt x scope cl (fun s₂ => FinE h₀ L m s₂ Q)) E s)
    (hs : ∀ x, foldedSetIterable iter env x = pure x := by intro _; rfl) :
    wpAny (model prog w) A (eval (.ListComp elt [⟨.Name x px, iter, [ct], 0⟩] scope pos) env) Q E s := by
  rw [eval_ListComp]
  refine wpAny_comprehension_free (use := none) rfl hs hclos hkind hnames (wpAny_mono h (fun xv s₁ h₁ => ?_) fun _ _ e => e)
  obtain ⟨b, t, news, rfl, hh, F, N, hsz, R⟩ := h₁
  refine KBw.pyIter_bytes ?_
  have W := KBw.walks (prog := prog) (w := w) hh s₁.heap.objs.size b t
  refine block_T W hsz (fun i h st => let ⟨o, e, _⟩ := st; ⟨o, e⟩) (fun i h h' o nw st e1 e2 _ _ _ => by obtain ⟨o', e, r⟩ := st; rw [e1] at e; cases e; exact ⟨_, e2, r⟩) hcell hkind hx ⟨_, Heap.get?_push_size _ rfl, rfl, rfl⟩ (fun b hb => ?_)
      (F.keeps fun _ _ e => Heap.get?_push_of_some _ e) (N.grown fun _ _ e => Heap.get?_push_of_some _ e) (Nat.ne_of_lt F.ns.lt) (next_is_new F) (fun p hp => Nat.ne_of_lt (Heap.lt_size (N p hp).1)) trivial (R _ ⟨_, rfl⟩) ?_
  · rw [List.mem_singleton.mp hb]
    show s₁.heap.objs.size < (s₁.heap.push _).objs.size
    rw [Heap.size_push]; exact Nat.lt_succ_self _
  · intro D C h tk m' ys news' F' N' o1 hn hC₀ hD₀ hCL hDL hCD offC fin
    refine ⟨m', hn, fun h'' hs'' => fin D h'' tk (F'.change hs'' hCL hC₀) (fun p hp => ?_) o1⟩
    refine ⟨hs''.extBut _ _ ?_ (N' p hp).1, (N' p hp).2⟩
    rcases List.mem_cons.mp hp with rfl | hp
    · exact Ne.symm hCD
    · exact offC p hp
theorem SrcB.intro {b : Array UInt8} {t : Tok} {news : List (Addr × Obj)} {s₁ : Shared} {FinS : Shared → List Value → List (Addr × Obj) → Prop} (hh : A.handled = none) (F : Fr h₀ L s₁.heap m) (N : News h₀ L s₁.heap news) (hsz : b.size ≤ sizeLine)
    (h : ∀ g, CompRestT prog w A h₀ L m env ct elt x scope cl { s₁ with heap := g } (fun _ => True) (fun i v => ∃ n t, b[i]? = some n ∧ v = .int (n.toNat : Int) t) (FinS { s₁ with heap := g }) b.size 0 [] news) :
    SrcB prog w A h₀ L m env ct elt x scope cl FinS (.bytes b t) s₁ := ⟨b, t, news, rfl, hh, F, N, hsz, fun _ ⟨g, e⟩ => e ▸ h g⟩
theorem compRestT_ind (J : Nat → List Value → List (Addr × Obj) → Prop) (n : Nat)
    (turn : ∀ i ys news v I oI C oC D m₂ h tk (E' : Value → Shared → Prop), i < n → J i ys news → P i v → NsObj oC m₂ → m₂ x = some v → Fr h₀ L h m → News h₀ L h ((I, oI) :: (C, oC) :: (D, lst ys) :: news) → Off3 I C D news → ((@Ne Nat I C) ∧ (@Ne Nat I D) ∧ (@Ne Nat C D)) →
      wpAny (model prog w) A (isTrue ct (compEnvC scope cl C env) (eval ct (compEnvC scope cl C env))) (fun ok s' => if ok = true then
        wpAny (model prog w) A (eval elt (compEnvC scope cl C env)) (CompEnd h₀ L m { s with heap := h, toks := tk } I oI C oC D (lst ys) S (fun y news' => J (i + 1) (ys ++ [y]) news')) E' s'
        else CompEnd h₀ L m { s with heap := h, toks := tk } I oI C oC D (lst ys) S (fun _ news' => J (i + 1) ys news') Value.none s') E' { s with heap := h, toks := tk })
    (fin : ∀ ys news, J n ys news → Fin ys news) : ∀ k i ys news, i + k = n → J i ys news → CompRestT prog w A h₀ L m env ct elt x scope cl s S P Fin k i ys news
  | 0, i, ys, news, e, hj => CompRestT.zero (fin ys news (by have : i = n := by omega
                                                             exact this ▸ hj))
  | k + 1, i, ys, news, e, hj => CompRestT.succ fun v I oI C oC D m₂ h tk E' hP hC hx F N off ne =>
      wpAny_mono (turn i ys news v I oI C oC D m₂ h tk E' (by omega) hj hP hC hx F N off ne) (fun b s₂ hq => by
        cases b with
        | true =>
          simp only [if_true] at hq ⊢
          exact wpAny_mono hq (fun y s₃ ⟨h', tk', news', e1, F', N', off', hS, hj'⟩ => ⟨h', tk', news', e1, F', N', off', hS, compRestT_ind J n turn fin k (i + 1) (ys ++ [y]) news' (by omega) hj'⟩) fun _ _ e => e
        | false =>
          simp only [Bool.false_eq_true, if_false] at hq ⊢
          obtain ⟨h', tk', news', e1, F', N', off', hS, hj'⟩ := hq
          exact ⟨h', tk', news', e1, F', N', off', hS, compRestT_ind J n turn fin k (i + 1) ys news' (by omega) hj'⟩) fun _ _ e => e
end
section
open LCg LCt
variable {prog : Program} {w : World} {A : Around} {s : Shared} {h₀ : Heap} {L : Addr} {m : Str → Option Value} {env : Env} {ct elt : Expr} {x : Str} {scope : Scope} {cl : List (Str × Addr)}
theorem ints_snocL {ys : List Value} {ns : List Int} {n : Int} {t : Tok} (h : IntsAre ys ns) : IntsAre (ys ++ [.int n t]) (ns ++ [n]) := h.append (.cons n t .nil)
theorem places_src {b : Array UInt8} {t : Tok} {news : List (Addr × Obj)} {s₁ : Shared} {FinS : Shared → List Value → List (Addr × Obj) → Prop} {S : List Int} {f : Int → Int} {p : Nat} (hh : A.handled = none) (F : Fr h₀ L s₁.heap m) (N : News h₀ L s₁.heap news) (hsz : b.size ≤ sizeLine)
    (hb : KBw.bInts b = S.map f ++ List.replicate p 61)
    (turn1 : ∀ y t I oI C oC D m₂ ys h tk (E' : Value → Shared → Prop), y ∈ S → NsObj oC m₂ → m₂ x = some (.int (f y) t) → Fr h₀ L h m → News h₀ L h ((I, oI) :: (C, oC) :: (D, lst ys) :: news) → Off3 I C D news → ((@Ne Nat I C) ∧ (@Ne Nat I D) ∧ (@Ne Nat C D)) →
      wpAny (model prog w) A (isTrue ct (compEnvC scope cl C env) (eval ct (compEnvC scope cl C env))) (fun ok s' => if ok = true then
        wpAny (model prog w) A (eval elt (compEnvC scope cl C env)) (CompEnd h₀ L m { s₁ with heap := h, toks := tk } I oI C oC D (lst ys) (fun _ => True) (fun v news' => news' = news ∧ ∃ t, v = .int y t)) E' s'
        else False) E' { s₁ with heap := h, toks := tk })
    (turn2 : ∀ t I oI C oC D m₂ ys h tk (E' : Value → Shared → Prop), NsObj oC m₂ → m₂ x = some (.int 61 t) → Fr h₀ L h m → News h₀ L h ((I, oI) :: (C, oC) :: (D, lst ys) :: news) → Off3 I C D news → ((@Ne Nat I C) ∧ (@Ne Nat I D) ∧ (@Ne Nat C D)) →
      wpAny (model prog w) A (isTrue ct (compEnvC scope cl C env) (eval ct (compEnvC scope cl C env))) (fun ok s' => if ok = true then False
        else CompEnd h₀ L m { s₁ with heap := h, toks := tk } I oI C oC D (lst ys) (fun _ => True) (fun _ news' => news' = news) Value.none s') E' { s₁ with heap := h, toks := tk })
    (fin : ∀ g ys, IntsAre ys S → FinS { s₁ with heap := g } ys news) :
    SrcB prog w A h₀ L m env ct elt x scope cl FinS (.bytes b t) s₁ := by
  refine SrcB.intro hh F N hsz fun g => ?_
  refine compRestT_ind (fun i ys nw => nw = news ∧ IntsAre ys (S.take i)) b.size ?_ ?_ _ 0 [] _ (by omega) ⟨rfl, .nil⟩
  · rintro i ys nw v I oI C oC D m₂ h tk E' hi ⟨rfl, hys⟩ ⟨n, tn, hn, rfl⟩ hC hx F N off ne
    have hn' := KBw.ints_get hn
    rw [hb] at hn'
    by_cases hiS : i < S.length
    · rw [List.getElem?_append_left (by rw [List.length_map]; exact hiS), List.getElem?_map, List.getElem?_eq_getElem hiS] at hn'
      have hc : f S[i] = (n.toNat : Int) := Option.some.inj hn'
      rw [← hc] at hx
      refine wpAny_mono (turn1 S[i] tn I oI C oC D m₂ ys h tk E' (List.getElem_mem hiS) hC hx F N off ne) (fun ok s' hq => ?_) fun _ _ e => e
      cases ok with
      | true =>
        simp only [if_true] at hq ⊢
        refine wpAny_mono hq (fun v s₃ ⟨h', tk', news', e1, F', N', off', hS, hj⟩ => ⟨h', tk', news', e1, F', N', off', hS, ?_⟩) fun _ _ e => e
        obtain ⟨rfl, t', rfl⟩ := hj
        refine ⟨rfl, ?_⟩
        rw [List.take_add_one, List.getElem?_eq_getElem hiS]
        exact ints_snocL hys
      | false => simp only [Bool.false_eq_true, if_false] at hq
    · have hc : (n.toNat : Int) = 61 := by
        rw [List.getElem?_append_right (by rw [List.length_map]; omega), List.getElem?_replicate] at hn'
        split at hn'
        · exact (Option.some.inj hn').symm
        · cases hn'
      rw [hc] at hx
      refine wpAny_mono (turn2 tn I oI C oC D m₂ ys h tk E' hC hx F N off ne) (fun ok s' hq => ?_) fun _ _ e => e
      cases ok with
      | true => simp only [if_true] at hq
      | false =>
        simp only [Bool.false_eq_true, if_false] at hq ⊢
        obtain ⟨h', tk', news', e1, F', N', off', hS, rfl⟩ := hq
        refine ⟨h', tk', _, e1, F', N', off', hS, rfl, ?_⟩
        rw [List.take_of_length_le (by omega)] at hys ⊢
        exact hys
  · rintro ys nw ⟨rfl, hys⟩
    refine fin g ys ?_
    have hl : S.length ≤ b.size := by rw [← KBw.ints_length, hb]; simp
    rwa [List.take_of_length_le hl] at hys
end
section
variable {prog : Program} {w : World} {A : Around} {E : Value → Shared → Prop} {s : Shared} {env : Env} {h₀ : Heap} {x : Str} {body : List Stmt} {Q : Flow → Shared → Prop} {m₀ : Str → Option Value} {news : List (Addr × Obj)}
theorem loopJ2 {I : Addr} {fp : List Addr} {n : Nat} {P : Nat → Value → Prop} {St : Nat → Heap → Prop} (J : Nat → (Str → Option Value) → List (Addr × Obj) → Prop)
    (W : Walks prog w A I fp [I] n P St) (hI : ∀ i h, St i h → ∃ o, h.get? I = some o) (hfp : ∀ b ∈ fp, b = I ∨ (∃ o, h₀.get? b = some o) ∨ ∃ o, ∀ i m nx, J i m nx → (b, o) ∈ nx) (hLf : env.locals ∉ fp) (hI₀ : h₀.get? I = none)
    (hoff : ∀ p ∈ news, p.1 ≠ I) (hst : St 0 s.heap) (F : Fr h₀ env.locals s.heap m₀) (N : News h₀ env.locals s.heap news) (h0 : J 0 m₀ news)
    (turn : ∀ i v m₁ news₁ h tk o, i < n → P i v → J i m₁ news₁ → (∀ p ∈ news₁, p.1 ≠ I) → Fr h₀ env.locals h (fun y => if y = x then some v else m₁ y) → News h₀ env.locals h ((I, o) :: news₁) →
      wpAny (model prog w) A (execs body env) (TurnEnd h₀ env.locals s I o (J (i + 1))) E { s with heap := h, toks := tk })
    (done : ∀ m₁ news₁ h tk, J n m₁ news₁ → Fr h₀ env.locals h m₁ → News h₀ env.locals h news₁ → Q .next { s with heap := h, toks := tk }) :
    LoopAtV prog w A h₀ env x body Q E (.ref I) s := by
  refine ⟨I, fp, [I], n, P, St, m₀, news, J, rfl, W, hLf, fun b hb => by rw [List.mem_singleton.mp hb]; exact hI₀, fun p hp => by simpa using hoff p hp, hst, F, N, h0, ?_, fun h' tk m' news' F' N' _ hJ => done m' news' h' tk hJ F' N'⟩
  rintro i v m₁ news₁ s₁ own ⟨hh', tk', rfl⟩ hin hP hJ hoff' hown hget hall hst₁ F₁ N₁
  obtain ⟨o, ho⟩ := hI _ _ hst₁
  have hmem := hall I (W.sub I (List.mem_singleton.mpr rfl)) hI₀ o ho
  have hne : ∀ p ∈ news₁, p.1 ≠ I := fun p hp => by simpa using hoff' p hp
  have ownis : ∀ p ∈ own, p = (I, o) ∨ ∀ i m nx, J i m nx → p ∈ nx := fun p hp => by
    have h1 := hown p hp
    have h2 := hget p hp
    rcases hfp _ h1 with e | ⟨o', e⟩ | ⟨o', e⟩
    · rw [e] at h2
      have h3 : some p.2 = some o := h2.symm.trans ho
      obtain ⟨a, b⟩ := p
      simp only at e h3
      rw [e, Option.some.inj h3]
      exact .inl rfl
    · have := (N₁ p (List.mem_append_left _ hp)).2.2
      rw [e] at this; cases this
    · have h4 := (N₁ _ (List.mem_append_right _ (e _ _ _ hJ))).1
      have h3 : some p.2 = some o' := h2.symm.trans h4
      obtain ⟨a, b⟩ := p
      simp only at h3 e
      rw [Option.some.inj h3]
      exact .inr e
  have N₂ : News h₀ env.locals hh' ((I, o) :: news₁) := fun p hp => by
    rcases List.mem_cons.mp hp with rfl | hp
    · exact N₁ _ (List.mem_append_left _ hmem)
    · exact N₁ _ (List.mem_append_right _ hp)
  refine wpAny_mono (turn i v m₁ news₁ hh' tk' o hin hP hJ hne F₁ N₂) (fun f s₂ p => ?_) fun _ _ e => e
  obtain ⟨rfl, h', tk₂, m₂, news₂, rfl, F₂, N₃, off₂, hJ₂⟩ := p
  refine .next ⟨rfl, h', tk₂, m₂, news₂, rfl, F₂, fun p hp => ?_, fun p hp => by simpa using off₂ p hp, hJ₂⟩
  rcases List.mem_append.mp hp with hp | hp
  · rcases ownis p hp with e | e
    · rw [e]; exact N₃ _ (List.mem_cons_self ..)
    · exact N₃ _ (List.mem_cons_of_mem _ (e _ _ _ hJ₂))
  · exact N₃ _ (List.mem_cons_of_mem _ hp)

/-- a loop over a list of the ledger -/
theorem iter_listJ {ax : Addr} {its : Array Value} {ep : Nat} (J : Nat → (Str → Option Value) → List (Addr × Obj) → Prop)
    (hh : A.handled = none) (F : Fr h₀ env.locals s.heap m₀) (N : News h₀ env.locals s.heap news) (h0 : J 0 m₀ news) (hm : ∀ i m nx, J i m nx → (ax, listOf its ep) ∈ nx)
    (turn : ∀ i v m₁ news₁ h tk I o, i < its.size → its[i]? = some v → J i m₁ news₁ → (∀ p ∈ news₁, p.1 ≠ I) → Fr h₀ env.locals h (fun y => if y = x then some v else m₁ y) → News h₀ env.locals h ((I, o) :: news₁) →
      wpAny (model prog w) A (execs body env) (TurnEnd h₀ env.locals s I o (J (i + 1))) E { s with heap := h, toks := tk })
    (done : ∀ m₁ news₁ h tk, J its.size m₁ news₁ → Fr h₀ env.locals h m₁ → News h₀ env.locals h news₁ → Q .next { s with heap := h, toks := tk }) :
    wpAny (model prog w) A (pyIter (.ref ax)) (fun it s₂ => LoopAtV prog w A h₀ env x body Q E it s₂) E s := by
  have n0 := N _ (hm _ _ _ h0)
  have hl : s.heap.IsList ax its := ⟨_, n0.1, rfl, _, rfl⟩
  have hlt : ax < s.heap.objs.size := Heap.lt_size n0.1
  refine wpAny_pyIter_list hl ?_
  refine loopJ2 J (Walks.list hh s.heap.objs.size ax (Nat.ne_of_lt hlt) its) (fun i h st => by obtain ⟨o, e, _⟩ := st.1; exact ⟨o, e⟩) ?_ ?_ (next_is_new F) ?_ ⟨⟨_, Heap.get?_push_size _ rfl, rfl, rfl⟩, hl.push _⟩ (F.push _) (fun p hp => ⟨Heap.get?_push_of_some _ (N p hp).1, (N p hp).2⟩) h0 ?_ ?_
  · intro b hb
    rcases List.mem_cons.mp hb with rfl | hb
    · exact .inl rfl
    · rw [List.mem_singleton.mp hb]
      exact .inr (.inr ⟨_, hm⟩)
  · intro hL
    rcases List.mem_cons.mp hL with hb | hb
    · exact absurd F.ns.lt (hb ▸ Nat.lt_irrefl _)
    · exact n0.2.1 (List.mem_singleton.mp hb).symm
  · intro p hp hI
    exact absurd (Heap.lt_size (N p hp).1) (hI ▸ Nat.lt_irrefl _)
  · intro i v m₁ news₁ h tk o hi hv hJ hoff F₁ N₁
    exact turn i v m₁ news₁ h tk _ o hi hv hJ hoff F₁ N₁
  · intro m₁ news₁ h tk hJ F₁ N₁
    exact done m₁ news₁ h tk hJ F₁ N₁
end
section
open LCg
variable {prog : Program} {w : World} {A : Around} {s : Shared} {h₀ : Heap} {L : Addr} {m : Str → Option Value} {env : Env} {elt : Expr} {x : Str} {scope : Scope} {cl : List (Str × Addr)} {S : List (Addr × Obj) → Prop} {Fin : List Value → List (Addr × Obj) → Prop}
/-- a turn gave the number c, the ledger stays -/
def IsInt (news : List (Addr × Obj)) (c : Int) (y : Value) (news' : List (Addr × Obj)) : Prop := news' = news ∧ ∃ t, y = .int c t
theorem ints_rest {news : List (Addr × Obj)} {n : Nat} {ks : List Int} (hn : ks.length = n)
    (turn : ∀ (k : Nat) c t I oI C oC D m₂ ys h tk (E' : Value → Shared → Prop), ks[k]? = some c → k < n → NsObj oC m₂ → m₂ x = some (.int (k : Int) t) → Fr h₀ L h m → News h₀ L h ((I, oI) :: (C, oC) :: (D, lst ys) :: news) → Off3 I C D news → ((@Ne Nat I C) ∧ (@Ne Nat I D) ∧ (@Ne Nat C D)) →
      wpAny (model prog w) A (eval elt (compEnvC scope cl C env)) (CompEnd h₀ L m { s with heap := h, toks := tk } I oI C oC D (lst ys) S (fun y news' => IsInt news c y news')) E' { s with heap := h, toks := tk })
    (fin : ∀ ys, IntsAre ys ks → Fin ys news) : CompRest prog w A h₀ L m env elt x scope cl s S (fun i v => ∃ t, v = .int (0 + (i : Int)) t) Fin n 0 [] news := by
  refine compRest_ind (fun i ys nw => nw = news ∧ IntsAre ys (ks.take i)) n ?_ ?_ _ 0 [] _ (by omega) ⟨rfl, .nil⟩
  · rintro i ys nw v I oI C oC D m₂ h tk E' hi ⟨rfl, hys⟩ ⟨t, rfl⟩ hC hx F N off ne
    rw [Int.zero_add] at hx
    have hi' : i < ks.length := by omega
    refine wpAny_mono (turn i ks[i] t I oI C oC D m₂ ys h tk E' (List.getElem?_eq_getElem hi') hi hC hx F N off ne) (fun v s₃ ⟨h', tk', news', e1, F', N', off', hS, hj⟩ => ⟨h', tk', news', e1, F', N', off', hS, ?_⟩) fun _ _ e => e
    obtain ⟨rfl, t', rfl⟩ := hj
    refine ⟨rfl, ?_⟩
    rw [List.take_add_one, List.getElem?_eq_getElem hi']
    exact ints_snocL hys
  · rintro ys nw ⟨rfl, hys⟩
    rw [← hn, List.take_length] at hys
    exact fin ys hys
end
end
section
open PySem PySem.W PyProof.Rows

theorem val_acc (B : Int) : ∀ (l : List Int) (acc : Int), l.foldl (fun n b => n * B + b) acc = acc * B ^ l.length + val B l
  | [], acc => by simp [val]
  | b :: r, acc => by
    have h1 := val_acc B r (acc * B + b)
    have h2 := val_acc B r b
    rw [List.foldl_cons, h1]
    show _ = acc * B ^ (r.length + 1) + (r.foldl (fun n b => n * B + b) (0 * B + b))
    rw [show (0 * B + b) = b by simp, h2, Int.pow_succ, Int.add_mul, Int.mul_assoc, Int.mul_comm B (B ^ r.length), Int.add_assoc]
theorem val_cons (B b : Int) (r : List Int) : val B (b :: r) = b * B ^ r.length + val B r := by
  show r.foldl _ (0 * B + b) = _
  rw [show (0 * B + b) = b by simp, val_acc]
theorem val_range : ∀ (l : List Int), (∀ c ∈ l, 0 ≤ c ∧ c < 256) → 0 ≤ val 256 l ∧ val 256 l < 256 ^ l.length
  | [], _ => by simp [val]
  | b :: r, h => by
    have ih := val_range r fun c hc => h c (List.mem_cons_of_mem _ hc)
    have hb := h b (List.mem_cons_self ..)
    rw [val_cons, List.length_cons, Int.pow_succ]
    have hp : (0 : Int) < 256 ^ r.length := Int.pow_pos (by decide)
    constructor
    · have := Int.mul_nonneg hb.1 (Int.le_of_lt hp); omega
    · have : b * 256 ^ r.length ≤ 255 * 256 ^ r.length := Int.mul_le_mul_of_nonneg_right (by omega) (Int.le_of_lt hp)
      omega
theorem val_digit : ∀ (l : List Int), (∀ c ∈ l, 0 ≤ c ∧ c < 256) → ∀ (k e : Nat), k + 1 + e = l.length → ∃ c, l[k]? = some c ∧ val 256 l / 256 ^ e % 256 = c
  | [], _, k, e, h => by simp at h
  | b :: r, h, k, e, he => by
    have hr := fun c hc => h c (List.mem_cons_of_mem _ hc)
    have ih := val_digit r hr
    have hb := h b (List.mem_cons_self ..)
    have hv := val_range r hr
    rw [List.length_cons] at he
    rw [val_cons]
    cases k with
    | zero =>
      have e1 : e = r.length := by omega
      refine ⟨b, rfl, ?_⟩
      rw [e1]
      have hp : (256 : Int) ^ r.length ≠ 0 := Int.ne_of_gt (Int.pow_pos (by decide))
      rw [Int.add_comm, Int.add_mul_ediv_right _ _ hp, Int.ediv_eq_zero_of_lt hv.1 hv.2]
      omega
    | succ k =>
      obtain ⟨c, hc, hd⟩ := ih k e (by omega)
      refine ⟨c, hc, ?_⟩
      have hp : (256 : Int) ^ e ≠ 0 := Int.ne_of_gt (Int.pow_pos (by decide))
      have e2 : (256 : Int) ^ r.length = 256 ^ k * 256 * 256 ^ e := by
        rw [← Int.pow_succ, ← Int.pow_add]; congr 1; omega
      rw [e2, ← Int.mul_assoc, Int.add_comm, Int.add_mul_ediv_right _ _ hp, ← Int.mul_assoc, Int.add_mul_emod_self_right, hd]
theorem list_of_digits {l ys : List Int} (hl : ys.length = l.length) (h : ∀ k, k < l.length → ∃ c, l[k]? = some c ∧ ys[k]? = some c) : ys = l := by
  refine List.ext_getElem? fun k => ?_
  by_cases hk : k < l.length
  · obtain ⟨c, h1, h2⟩ := h k hk
    rw [h1, h2]
  · rw [List.getElem?_eq_none (by omega), List.getElem?_eq_none (by omega)]
end
section
open PySem PySem.W PyProof.Rows PySem.Calls


theorem of_fin {P : Int → Prop} {w : Nat} (h : ∀ n : Fin w, P (n.val : Int)) : ∀ i : Int, 0 ≤ i ∧ i < (w : Int) → P i := by
  intro i ⟨h0, h1⟩
  have := h ⟨i.toNat, by omega⟩
  rwa [show ((i.toNat : Nat) : Int) = i by omega] at this
theorem name_it {M : Model} {A : Around} {E : Value → Shared → Prop} {s : Shared} {P : Value → Shared → Prop} {ax : Addr} (h : ∀ a, a = ax → wpAny M A (pyIter (.ref a)) P E s) : wpAny M A (pyIter (.ref ax)) P E s := h ax rfl
theorem cut_in {g h : Heap} {L a1 a2 a3 a4 cm cn ca : Addr} {o1 o2 o3 o4 om on oa : Obj} {xn xm : Option Value} {P : Prop} (N : News g L h [(a1,o1),(a2,o2),(a3,o3),(a4,o4),(cm,om),(cn,on),(ca,oa)]) (dn : on.data = .cell xn) (dm : om.data = .cell xm)
    (hp : ∀ om on, om.data = .cell xm → on.data = .cell xn → News g L h [(a2,o2),(cm,om),(cn,on)] → P) : P :=
  hp om on dm dn fun p hp => N p (by simp only [List.mem_cons, List.not_mem_nil, or_false] at hp ⊢; rcases hp with h | h | h <;> simp [h])
theorem log256 {e : Nat} (h : e < 1000) : ((256 : Int) ^ e).natAbs.log2 < 9000 := by
  have e1 : (256 : Int) ^ e = ((2 ^ (8 * e) : Nat) : Int) := by
    rw [Int.natCast_pow, Int.pow_mul]; rfl
  rw [e1, Int.natAbs_natCast, Nat.log2_two_pow]; omega
theorem div256 {prog : Program} {w : World} {A : Around} {E Q : Value → Shared → Prop} {s : Shared} {a n : Int} {t u : Tok} (hn : n < 1000) (h : Q (.int (a.fdiv (256 ^ n.toNat)) s.toks) { s with toks := s.toks + 1 }) : wpAny (model prog w) A (binaryOp .FloorDiv (.int a t) (.int (256 ^ n.toNat) u)) Q E s :=
  floordiv_int (Int.ne_of_gt (Int.pow_pos (by decide))) h (Or.inl (PyProof.noPylong_of_log2 (log256 (by omega))))
theorem item_01b {prog : Program} {w : World} {A : Around} {E Q : Value → Shared → Prop} {s : Shared} {value slice : PySem.Expr} {h₀ : Heap} {L D : Addr} {news : List (Addr × Obj)} {n k : Nat} {u : Tok} {a0 a1 arr : Array UInt8} {t0 t1 : Tok} {v2 : Value} (N : News h₀ L s.heap news) (hm : (D, W.listOf #[.bytes a0 t0, .bytes a1 t1, v2] n) ∈ news) (hk : k = 0 ∨ k = 1) (h0 : k = 0 → arr = a0) (h1 : k = 1 → arr = a1)
    (h : ∀ t, Q (.bytes arr t) s) (hs : subscripted slice false (.ref D) (.int (k : Int) u) = operate [.ref D, .int (k : Int) u] (getItem (.ref D) (.int (k : Int) u)) := by with_unfolding_all rfl) :
    wpAny (model prog w) A (subscriptTail value slice (.ref D) (.int (k : Int) u)) Q E s := by
  rcases hk with rfl | rfl
  · exact item_litK (vs := [.bytes a0 t0, .bytes a1 t1, v2]) (News.isList N hm) (by decide) (by decide) rfl (h0 rfl ▸ h t0) hs
  · exact item_litK (vs := [.bytes a0 t0, .bytes a1 t1, v2]) (News.isList N hm) (by decide) (by decide) rfl (h1 rfl ▸ h t1) hs
theorem item_01i {prog : Program} {w : World} {A : Around} {E Q : Value → Shared → Prop} {s : Shared} {value slice : PySem.Expr} {h₀ : Heap} {L D : Addr} {news : List (Addr × Obj)} {n k : Nat} {u : Tok} {c : Int} {t0 t1 : Tok} {v2 : Value} (N : News h₀ L s.heap news) (hm : (D, W.listOf #[.int c t0, .int c t1, v2] n) ∈ news) (hk : k = 0 ∨ k = 1)
    (h : ∀ t, Q (.int c t) s) (hs : subscripted slice false (.ref D) (.int (k : Int) u) = operate [.ref D, .int (k : Int) u] (getItem (.ref D) (.int (k : Int) u)) := by with_unfolding_all rfl) :
    wpAny (model prog w) A (subscriptTail value slice (.ref D) (.int (k : Int) u)) Q E s := by
  rcases hk with rfl | rfl
  · exact item_litK (vs := [.int c t0, .int c t1, v2]) (News.isList N hm) (by decide) (by decide) rfl (h t0) hs
  · exact item_litK (vs := [.int c t0, .int c t1, v2]) (News.isList N hm) (by decide) (by decide) rfl (h t1) hs
def Finds (k : Nat) (arr : Array UInt8) (m : Nat) : Prop := ∀ y : Int, 0 ≤ y ∧ y < (m : Int) → sgn (ALk k) y ≠ 61 ∧ 0 ≤ sgn (ALk k) y ∧ sgn (ALk k) y < 256 ∧ Builtin.Bytes.find? arr #[(sgn (ALk k) y).toNat.toUInt8] 0 arr.size = some y.toNat
theorem finds0 : Finds 0 #[65, 66, 67, 68, 69, 70, 71, 72, 73, 74, 75, 76, 77, 78, 79, 80, 81, 82, 83, 84, 85, 86, 87, 88, 89, 90, 97, 98, 99, 100, 101, 102, 103, 104, 105, 106, 107, 108, 109, 110, 111, 112, 113, 114, 115, 116, 117, 118, 119, 120, 121, 122, 48, 49, 50, 51, 52, 53, 54, 55, 56, 57, 43, 47] 64 := of_fin (w := 64) (P := fun y => sgn (ALk 0) y ≠ 61 ∧ 0 ≤ sgn (ALk 0) y ∧ sgn (ALk 0) y < 256 ∧ Builtin.Bytes.find? #[65, 66, 67, 68, 69, 70, 71, 72, 73, 74, 75, 76, 77, 78, 79, 80, 81, 82, 83, 84, 85, 86, 87, 88, 89, 90, 97, 98, 99, 100, 101, 102, 103, 104, 105, 106, 107, 108, 109, 110, 111, 112, 113, 114, 115, 116, 117, 118, 119, 120, 121, 122, 48, 49, 50, 51, 52, 53, 54, 55, 56, 57, 43, 47] #[(sgn (ALk 0) y).toNat.toUInt8] 0 64 = some y.toNat) (by decide +kernel)
theorem finds1 : Finds 1 #[65, 66, 67, 68, 69, 70, 71, 72, 73, 74, 75, 76, 77, 78, 79, 80, 81, 82, 83, 84, 85, 86, 87, 88, 89, 90, 97, 98, 99, 100, 101, 102, 103, 104, 105, 106, 107, 108, 109, 110, 111, 112, 113, 114, 115, 116, 117, 118, 119, 120, 121, 122, 48, 49, 50, 51, 52, 53, 54, 55, 56, 57, 45, 95] 64 := of_fin (w := 64) (P := fun y => sgn (ALk 1) y ≠ 61 ∧ 0 ≤ sgn (ALk 1) y ∧ sgn (ALk 1) y < 256 ∧ Builtin.Bytes.find? #[65, 66, 67, 68, 69, 70, 71, 72, 73, 74, 75, 76, 77, 78, 79, 80, 81, 82, 83, 84, 85, 86, 87, 88, 89, 90, 97, 98, 99, 100, 101, 102, 103, 104, 105, 106, 107, 108, 109, 110, 111, 112, 113, 114, 115, 116, 117, 118, 119, 120, 121, 122, 48, 49, 50, 51, 52, 53, 54, 55, 56, 57, 45, 95] #[(sgn (ALk 1) y).toNat.toUInt8] 0 64 = some y.toNat) (by decide +kernel)
theorem finds2 : Finds 2 #[48, 49, 50, 51, 52, 53, 54, 55, 56, 57, 65, 66, 67, 68, 69, 70] 16 := of_fin (w := 16) (P := fun y => sgn (ALk 2) y ≠ 61 ∧ 0 ≤ sgn (ALk 2) y ∧ sgn (ALk 2) y < 256 ∧ Builtin.Bytes.find? #[48, 49, 50, 51, 52, 53, 54, 55, 56, 57, 65, 66, 67, 68, 69, 70] #[(sgn (ALk 2) y).toNat.toUInt8] 0 16 = some y.toNat) (by decide +kernel)
theorem finds01 {k : Nat} (hk : k = 0 ∨ k = 1) : ∃ arr, (k = 0 → arr = #[65, 66, 67, 68, 69, 70, 71, 72, 73, 74, 75, 76, 77, 78, 79, 80, 81, 82, 83, 84, 85, 86, 87, 88, 89, 90, 97, 98, 99, 100, 101, 102, 103, 104, 105, 106, 107, 108, 109, 110, 111, 112, 113, 114, 115, 116, 117, 118, 119, 120, 121, 122, 48, 49, 50, 51, 52, 53, 54, 55, 56, 57, 43, 47]) ∧ (k = 1 → arr = #[65, 66, 67, 68, 69, 70, 71, 72, 73, 74, 75, 76, 77, 78, 79, 80, 81, 82, 83, 84, 85, 86, 87, 88, 89, 90, 97, 98, 99, 100, 101, 102, 103, 104, 105, 106, 107, 108, 109, 110, 111, 112, 113, 114, 115, 116, 117, 118, 119, 120, 121, 122, 48, 49, 50, 51, 52, 53, 54, 55, 56, 57, 45, 95]) ∧ Finds k arr 64 ∧ wid k = 6 := by
  rcases hk with rfl | rfl
  · exact ⟨_, fun _ => rfl, fun h => absurd h (by decide), finds0, rfl⟩
  · exact ⟨_, fun h => absurd h (by decide), fun _ => rfl, finds1, rfl⟩
theorem filled_spec {w : World} {loose : List Str} {mean : ExcName → Option Value} {mg mb : Str → Option Value} {A : Around} {s : Shared} {Q E : Value → Shared → Prop} {k : Nat} {tk : Tok} {b : Array UInt8} {t : Tok} {sg ks : List Int}
    (O : Ok w loose mean mg mb s.heap) (hdp : A.depth < recursionLimit) (hh : A.handled = none) (hk3 : k < 3) (hb : KBw.bInts b = sg) (hl : sg.length < 256) (hen : Enc (ALk k) (wid k) ks sg) (hks : ∀ c ∈ ks, 0 ≤ c ∧ c < 256)
    (ret : ∀ bb t' h' tk, KBw.bInts bb = ks → (∀ b o, s.heap.get? b = some o → h'.get? b = some o) → Q (.bytes bb t') { s with heap := h', toks := tk }) :
    wpAny (model PR w) A (call (.ref 110) [.int (k : Int) tk, .bytes b t]) Q E s := by
  w_top off
  k_with_none
  (k_with "getMethod bytes" => (first
  | (with_reducible refine KBd.method_of _ (typeIs_bytes _ _ _) slot_bytes_translate type_bytes_translate KBd.noRef ?_)
  | (with_reducible refine KBd.method_of _ (typeIs_bytes _ _ _) slot_bytes_upper type_bytes_upper KBd.noRef ?_)
  | (with_reducible refine KBd.method_of _ (typeIs_bytes _ _ _) slot_bytes_join type_bytes_join KBd.noRef ?_)
  | (with_reducible refine KBd.method_of _ (typeIs_bytes _ _ _) slot_bytes_find type_bytes_find KBd.noRef ?_)
  | (with_reducible refine KBd.method_of _ (typeIs_bytes _ _ _) FB.slot_bytes_hex FB.type_bytes_hex KBd.noRef ?_)))
  (k_with "eval ListComp" => (k_dflt (refine LCg.ListComp_U (F₀ := by k_asm) (by with_unfolding_all rfl) (by decide) (by rfl) (by decide) (by rfl) ?_)))
  (k_with "eval ListComp" => ((with_reducible show wpAny _ _ (eval (PySem.Expr.ListComp _ [{ target := _, iter := _, ifs := [_], is_async := _ }] _ _) _) _ _ _); k_dflt (refine ListComp_TB (F₀ := by k_asm) (by with_unfolding_all rfl) (by decide) (by rfl) (by decide) (by rfl) ?_)))
  (k_with "assign Tuple" => ((with_reducible show wpAny _ _ (assign (Expr.Tuple _ _ _) _ (Value.ref _)) _ _ _); k_dflt (refine' unpackN_ ?k1 ?k2 ?k3 ?k4 ?k5 ?k6 ?_; (case k1 => k_asm); (case k2 => k_asm); (case k3 => kun_tup); (case k4 => assumption); (case k5 => exact rfl); (case k6 => exact rfl); k_whole); intro h' F' N'; (try k_sweep)))
  (k_with "binaryOp FloorDiv int int" => ((with_reducible show wpAny _ _ (binaryOp _ _ (Value.int (256 ^ _) _)) _ _ _); refine div256 (by omega) ?_))
  (k_with "subscriptTail" => ((with_reducible show wpAny _ _ (subscriptTail _ _ (Value.ref _) (Value.int _ _)) _ _ _); (k_dflt (first | (refine item_01b (by k_asm) (by k_mem) (by assumption) (by assumption) (by assumption) ?_ (by with_unfolding_all rfl)) | (refine item_01i (by k_asm) (by k_mem) (by assumption) ?_ (by with_unfolding_all rfl)))); intro _))
  (have kfill0 : (Mine.hd.heap_39 = Mine.hd.heap_39) ∧ PySem.Challenge.rw_mr0056_01 = PySem.Challenge.rw_mr0056_01 := by (k_fill; exact ⟨rfl, rfl⟩)); clear kfill0
  obtain ⟨X, T, C⟩ := O
  refine wpAny_call ?_
  refine' enterKC (muts := []) (binds := [(Str.ofString "kind", .int (k : Int) tk), (Str.ofString "signs", .bytes b t)]) (p := topProg) X T.nolimit (fun _ hp => nomatch hp) ?k6 ?k7 ?k8 ?k9 ?kB ?kD ?_ ?c2 ?c3 ?c4
  (case k6 => k_is)
  (case k7 => k_is)
  (case k8 => k_room)
  (case k9 => exact BindsTo.of_eq rfl)
  (case kB => exact rfl)
  (case kD => decide +kernel)
  (case c2 => exact rfl)
  (case c3 => exact rfl)
  (case c4 => exact rfl)
  intro g L' h₁ tk cells hk hk2 hmn hsz hL F N Y l1
  k_fold
  have hk' : ∀ b o, s.heap.get? b = some o → g.get? b = some o := fun b o e => hk b o e (fun p hp => nomatch hp)
  replace X := X.keeps hk'
  replace T := T.keeps hk'
  replace C := C.keeps hk'
  clear l1
  k_cells Y
  simp only [List.cons_append, List.nil_append] at N
  have hk3' : (k = 0 ∨ k = 1) ∨ k = 2 := by omega
  rcases hk3' with hk01 | hk2
  · obtain ⟨arr, hA0, hA1, hall, hw⟩ := finds01 hk01
    rw [hw] at hen
    clear hw
    obtain ⟨S, p, r, rfl, hS, hlen, hr, hval⟩ := hen.is
    have hsz1 : b.size ≤ sizeLine := by rw [← KBw.ints_length, hb, sizeLine_eq]; omega
    k_steps
    rename Fr _ _ _ _ => F
    rename News _ _ _ _ => N
    refine places_src hh F N hsz1 hb ?_ ?_ ?_
    · intro y ty I oI C oC D m₂ ys h tk E' hy hC hx F N off ne
      simp only [LCg.Off3, and_true] at off
      obtain ⟨⟨of1, of2, of3⟩, ⟨of4, of5, of6⟩, ⟨of7, of8, of9⟩, ⟨of10, of11, of12⟩, of13, of14, of15⟩ := off
      obtain ⟨ne1, ne2, ne3⟩ := ne
      obtain ⟨hne, hi0, hi1, hfi⟩ := hall y (hS y hy)
      k_steps
      refine find_rule (j := y.toNat) hi0 hi1 hfi ?_
      intro tf kf
      rw [Int.toNat_of_nonneg (hS y hy).1]
      k_steps
      all_goals exact ⟨rfl, _, rfl⟩
    · intro ty I oI C oC D m₂ ys h tk E' hC hx F N off ne
      simp only [LCg.Off3, and_true] at off
      obtain ⟨⟨of1, of2, of3⟩, ⟨of4, of5, of6⟩, ⟨of7, of8, of9⟩, ⟨of10, of11, of12⟩, of13, of14, of15⟩ := off
      obtain ⟨ne1, ne2, ne3⟩ := ne
      k_steps
    · intro g' ys hys
      clear F N
      k_steps
      rename Fr _ _ _ _ => F
      rename News _ _ _ _ => N
      have hylen : ys.length = S.length := hys.length
      refine cut_in N (by assumption) (by assumption) ?_
      intro om on dm dn N3
      clear N
      refine name_it ?_
      intro D eD
      subst eD
      have hDn : (@Ne Nat D (L' + 1 + 1 + 1)) ∧ (@Ne Nat D (L' + 1 + 1)) := ⟨by omega, by omega⟩
      refine iter_listJ (ax := D) (its := ys.toArray) (ep := ys.length) (fun i m nw => ∃ on t t', nw = [(D, LCg.lst ys), (L' + 1 + 1 + 1, om), (L' + 1 + 1, on)] ∧ on.data = .cell (some (.int (val 64 (S.take i)) t)) ∧ m (Str.ofString "places") = some (.ref D) ∧ m (Str.ofString "wide") = some (.int 6 t')) hh F N3 ⟨on, _, _, rfl, dn, rfl, rfl⟩ ?_ ?_ ?_
      · rintro i m nx ⟨on, t, t', rfl, _⟩
        exact List.mem_cons_self ..
      · rintro i v m₁ nw h tk2 I oI hi hv ⟨on, tv, tw, rfl, dn, e1, e2⟩ hoff F N
        obtain ⟨y, ty, rfl, hy⟩ := IntsAre.at hys i v (by simpa using hv)
        have F := Fr_say (x := Str.ofString "places") F (v := .ref D) (by rw [if_neg (by decide)]; exact e1)
        have F := Fr_say (x := Str.ofString "wide") F (v := .int 6 tw) (by rw [if_neg (by decide), if_neg (by decide)]; exact e2)
        clear e1 e2
        have hID : @Ne Nat D I := hoff _ (List.mem_cons_self ..)
        have hI1 : @Ne Nat (L' + 1 + 1 + 1) I := hoff (L' + 1 + 1 + 1, om) (by simp)
        have hI2 : @Ne Nat (L' + 1 + 1) I := hoff (L' + 1 + 1, on) (by simp)
        have hoff2 : ∀ {o : Obj}, ∀ p ∈ [(D, LCg.lst ys), (L' + 1 + 1 + 1, om), (L' + 1 + 1, o)], p.1 ≠ I := fun p hp => by
          simp only [List.mem_cons, List.not_mem_nil, or_false] at hp
          rcases hp with rfl | rfl | rfl
          · exact hID
          · exact hI1
          · exact hI2
        have hnx : val 64 (S.take (i + 1)) = val 64 (S.take i) * 64 + y := by rw [List.take_add_one, hy]; exact val_snoc ..
        k_steps
        refine TurnEnd.intro [(D, LCg.lst ys), (L' + 1 + 1 + 1, om), (L' + 1 + 1, _)] (by assumption) (by assumption) hoff2 ⟨_, _, _, rfl, (by rw [hnx]; assumption), rfl, rfl⟩
      · rintro m₁ nw h tk2 ⟨on, tv, tw, rfl, dn, e1, e2⟩ F N
        have F := Fr_say (x := Str.ofString "places") F e1
        have F := Fr_say (x := Str.ofString "wide") F (v := .int 6 tw) (by rw [if_neg (by decide)]; exact e2)
        have hfull : S.take ys.toArray.size = S := by rw [List.size_toArray, hylen]; exact List.take_length
        rw [hfull] at dn
        clear e1 e2
        have hl6 : S.length ≤ 255 := by simp at hl; omega
        k_steps
        have hM : ((S.length : Int) * 6).fdiv 8 = (ks.length : Int) := by rw [Int.fdiv_eq_ediv_of_nonneg _ (by decide)]; omega
        have hV : (val 64 S).fdiv (2 ^ (((S.length : Int) * 6).fmod 8).toNat) = val 256 ks := by
          have e1 : (((S.length : Int) * 6).fmod 8).toNat = r := by rw [Int.fmod_eq_emod_of_nonneg _ (by decide)]; omega
          rw [e1, show val 64 S = val 256 ks * 2 ^ r from hval, Int.fdiv_eq_ediv_of_nonneg _ (Int.pow_nonneg (by decide))]
          exact Int.mul_ediv_cancel _ (Int.ne_of_gt (Int.pow_pos (by decide)))
        rename _ = Data.cell (some (Value.int (Int.fdiv (_ * 6) 8) _)) => dm
        rename _ = Data.cell (some (Value.int (Int.fdiv _ (2 ^ _)) _)) => dn
        rename IsRange _ _ _ _ _ _ _ _ => hran
        rw [hM] at dm hran
        rw [hV] at dn
        rename Fr _ _ _ _ => F
        rename News _ _ _ _ => N
        have hkl : ks.length ≤ 191 := by omega
        refine LCg.CompSrc.range hh F N hran ?_ (n := ks.length) ?_ (by rw [sizeLine_eq]; omega) ?_
        · exact small_one (by decide) (by decide) (by omega) (by omega)
        · rw [rangeSize_nat]; omega
        intro g'
        refine ints_rest rfl ?_ ?_
        · intro k c tc I oI C oC D2 m₂ ys2 h2 tk2 E' hc hkn hC hx F N off ne
          simp only [LCg.Off3, and_true] at off
          obtain ⟨⟨of1, of2, of3⟩, ⟨of4, of5, of6⟩, of7, of8, of9⟩ := off
          obtain ⟨ne1, ne2, ne3⟩ := ne
          obtain ⟨c', hc', hdig⟩ := val_digit ks hks k (ks.length - 1 - k) (by omega)
          rw [hc] at hc'
          cases hc'
          k_steps
          refine ⟨rfl, _, congrArg (fun z => Value.int z _) ?_⟩
          rw [show ((ks.length : Int) - 1 - (k : Int)).toNat = ks.length - 1 - k by omega, Int.fdiv_eq_ediv_of_nonneg _ (Int.pow_nonneg (by decide)), Int.fmod_eq_emod_of_nonneg _ (by decide)]
          exact hdig
        · intro ys2 hys2
          k_steps
          refine make_arr (its := ys2.toArray) (by assumption) (by assumption) hh (by k_mem) hys2 hks (by omega) ?_
          intro h' t' k' F' N' hin
          k_unfold
          exact ret _ _ _ _ hin (fun b o e => F'.keep b o (hk' b o e))
  · subst hk2
    have hall := finds2
    replace hen : Enc (ALk 2) 4 ks sg := hen
    obtain ⟨S, p, r, rfl, hS, hlen, hr, hval⟩ := hen.is
    have hsz1 : b.size ≤ sizeLine := by rw [← KBw.ints_length, hb, sizeLine_eq]; omega
    k_steps
    rename Fr _ _ _ _ => F
    rename News _ _ _ _ => N
    refine places_src hh F N hsz1 hb ?_ ?_ ?_
    · intro y ty I oI C oC D m₂ ys h tk E' hy hC hx F N off ne
      simp only [LCg.Off3, and_true] at off
      obtain ⟨⟨of1, of2, of3⟩, ⟨of4, of5, of6⟩, ⟨of7, of8, of9⟩, ⟨of10, of11, of12⟩, of13, of14, of15⟩ := off
      obtain ⟨ne1, ne2, ne3⟩ := ne
      obtain ⟨hne, hi0, hi1, hfi⟩ := hall y (hS y hy)
      k_steps
      refine find_rule (j := y.toNat) hi0 hi1 hfi ?_
      intro tf kf
      rw [Int.toNat_of_nonneg (hS y hy).1]
      k_steps
      all_goals exact ⟨rfl, _, rfl⟩
    · intro ty I oI C oC D m₂ ys h tk E' hC hx F N off ne
      simp only [LCg.Off3, and_true] at off
      obtain ⟨⟨of1, of2, of3⟩, ⟨of4, of5, of6⟩, ⟨of7, of8, of9⟩, ⟨of10, of11, of12⟩, of13, of14, of15⟩ := off
      obtain ⟨ne1, ne2, ne3⟩ := ne
      k_steps
    · intro g' ys hys
      clear F N
      k_steps
      rename Fr _ _ _ _ => F
      rename News _ _ _ _ => N
      have hylen : ys.length = S.length := hys.length
      refine cut_in N (by assumption) (by assumption) ?_
      intro om on dm dn N3
      clear N
      refine name_it ?_
      intro D eD
      subst eD
      have hDn : (@Ne Nat D (L' + 1 + 1 + 1)) ∧ (@Ne Nat D (L' + 1 + 1)) := ⟨by omega, by omega⟩
      refine iter_listJ (ax := D) (its := ys.toArray) (ep := ys.length) (fun i m nw => ∃ on t t', nw = [(D, LCg.lst ys), (L' + 1 + 1 + 1, om), (L' + 1 + 1, on)] ∧ on.data = .cell (some (.int (val 16 (S.take i)) t)) ∧ m (Str.ofString "places") = some (.ref D) ∧ m (Str.ofString "wide") = some (.int 4 t')) hh F N3 ⟨on, _, _, rfl, dn, rfl, rfl⟩ ?_ ?_ ?_
      · rintro i m nx ⟨on, t, t', rfl, _⟩
        exact List.mem_cons_self ..
      · rintro i v m₁ nw h tk2 I oI hi hv ⟨on, tv, tw, rfl, dn, e1, e2⟩ hoff F N
        obtain ⟨y, ty, rfl, hy⟩ := IntsAre.at hys i v (by simpa using hv)
        have F := Fr_say (x := Str.ofString "places") F (v := .ref D) (by rw [if_neg (by decide)]; exact e1)
        have F := Fr_say (x := Str.ofString "wide") F (v := .int 4 tw) (by rw [if_neg (by decide), if_neg (by decide)]; exact e2)
        clear e1 e2
        have hID : @Ne Nat D I := hoff _ (List.mem_cons_self ..)
        have hI1 : @Ne Nat (L' + 1 + 1 + 1) I := hoff (L' + 1 + 1 + 1, om) (by simp)
        have hI2 : @Ne Nat (L' + 1 + 1) I := hoff (L' + 1 + 1, on) (by simp)
        have hoff2 : ∀ {o : Obj}, ∀ p ∈ [(D, LCg.lst ys), (L' + 1 + 1 + 1, om), (L' + 1 + 1, o)], p.1 ≠ I := fun p hp => by
          simp only [List.mem_cons, List.not_mem_nil, or_false] at hp
          rcases hp with rfl | rfl | rfl
          · exact hID
          · exact hI1
          · exact hI2
        have hnx : val 16 (S.take (i + 1)) = val 16 (S.take i) * 16 + y := by rw [List.take_add_one, hy]; exact val_snoc ..
        k_steps
        refine TurnEnd.intro [(D, LCg.lst ys), (L' + 1 + 1 + 1, om), (L' + 1 + 1, _)] (by assumption) (by assumption) hoff2 ⟨_, _, _, rfl, (by rw [hnx]; assumption), rfl, rfl⟩
      · rintro m₁ nw h tk2 ⟨on, tv, tw, rfl, dn, e1, e2⟩ F N
        have F := Fr_say (x := Str.ofString "places") F e1
        have F := Fr_say (x := Str.ofString "wide") F (v := .int 4 tw) (by rw [if_neg (by decide)]; exact e2)
        have hfull : S.take ys.toArray.size = S := by rw [List.size_toArray, hylen]; exact List.take_length
        rw [hfull] at dn
        clear e1 e2
        have hl6 : S.length ≤ 255 := by simp at hl; omega
        k_steps
        have hM : ((S.length : Int) * 4).fdiv 8 = (ks.length : Int) := by rw [Int.fdiv_eq_ediv_of_nonneg _ (by decide)]; omega
        have hV : (val 16 S).fdiv (2 ^ (((S.length : Int) * 4).fmod 8).toNat) = val 256 ks := by
          have e1 : (((S.length : Int) * 4).fmod 8).toNat = r := by rw [Int.fmod_eq_emod_of_nonneg _ (by decide)]; omega
          rw [e1, show val 16 S = val 256 ks * 2 ^ r from hval, Int.fdiv_eq_ediv_of_nonneg _ (Int.pow_nonneg (by decide))]
          exact Int.mul_ediv_cancel _ (Int.ne_of_gt (Int.pow_pos (by decide)))
        rename _ = Data.cell (some (Value.int (Int.fdiv (_ * 4) 8) _)) => dm
        rename _ = Data.cell (some (Value.int (Int.fdiv _ (2 ^ _)) _)) => dn
        rename IsRange _ _ _ _ _ _ _ _ => hran
        rw [hM] at dm hran
        rw [hV] at dn
        rename Fr _ _ _ _ => F
        rename News _ _ _ _ => N
        have hkl : ks.length ≤ 191 := by omega
        refine LCg.CompSrc.range hh F N hran ?_ (n := ks.length) ?_ (by rw [sizeLine_eq]; omega) ?_
        · exact small_one (by decide) (by decide) (by omega) (by omega)
        · rw [rangeSize_nat]; omega
        intro g'
        refine ints_rest rfl ?_ ?_
        · intro k c tc I oI C oC D2 m₂ ys2 h2 tk2 E' hc hkn hC hx F N off ne
          simp only [LCg.Off3, and_true] at off
          obtain ⟨⟨of1, of2, of3⟩, ⟨of4, of5, of6⟩, of7, of8, of9⟩ := off
          obtain ⟨ne1, ne2, ne3⟩ := ne
          obtain ⟨c', hc', hdig⟩ := val_digit ks hks k (ks.length - 1 - k) (by omega)
          rw [hc] at hc'
          cases hc'
          k_steps
          refine ⟨rfl, _, congrArg (fun z => Value.int z _) ?_⟩
          rw [show ((ks.length : Int) - 1 - (k : Int)).toNat = ks.length - 1 - k by omega, Int.fdiv_eq_ediv_of_nonneg _ (Int.pow_nonneg (by decide)), Int.fmod_eq_emod_of_nonneg _ (by decide)]
          exact hdig
        · intro ys2 hys2
          k_steps
          refine make_arr (its := ys2.toArray) (by assumption) (by assumption) hh (by k_mem) hys2 hks (by omega) ?_
          intro h' t' k' F' N' hin
          k_unfold
          exact ret _ _ _ _ hin (fun b o e => F'.keep b o (hk' b o e))
end
section
open PySem PySem.W PyProof.Rows PySem.Calls PySem.Builtin PySem.Builtin.ObjectAttr

theorem slot_fn_setattr : Slot "function" "__setattr__" "object.__setattr__" :=
  .of (owner := "object") (n := "__setattr__") (by rw [typeLookup_type, builtinLookup_eq_fast]; kernel_rfl) (by decide +kernel) (by decide +kernel) (by decide +kernel)
    (by first | exact .inl (by decide +kernel) | exact .inr (by decide +kernel)) (by rw [isSubtype_type]; kernel_rfl)
theorem fn_no_read : typeLookup (.type "function") "read" = pure none := by rw [typeLookup_type, builtinLookup_eq_fast]; kernel_rfl
theorem mro_fn : mroOf (.type "function") = pure [.type "function", .type "object"] := by kernel_rfl
theorem refuse_fn (self : Value) : refuseLoop self "__setattr__" [.type "function", .type "object"] = pure () := by kernel_rfl

section
variable {prog : Program} {w : World} {A : Around} {E : Value → Shared → Prop} {s : Shared} {f : Addr} {fd : FuncData} {v : Value}
theorem set_fn {Q : Unit → Shared → Prop} (ho : s.heap.get? f = some ⟨.type "function", none, .func fd, #[]⟩)
    (h : ∀ h' d tk hsh tn, d = s.heap.objs.size → h'.get? d = some (W.dictOf [⟨hsh, .str (Str.ofString "read") tn, v⟩] 1) → h'.get? f = some ⟨.type "function", some d, .func fd, #[]⟩ → (∀ b o, b ≠ f → s.heap.get? b = some o → h'.get? b = some o) → Q () { s with heap := h', toks := tk }) :
    wpAny (model prog w) A (setAttr (.ref f) (Str.ofString "read") v) Q E s := by
  unfold setAttr
  refine wpAny_bind (wpAny_mkText ?_)
  have hT : ∀ s' : Shared, s'.heap = s.heap → s'.TypeIs (.ref f) "function" := fun s' e => ⟨_, by rw [e]; exact ho, rfl⟩
  refine wpAny_bind (wpAny_callSpecial?_slot (name := Str.ofString "__setattr__") (hT _ rfl) slot_fn_setattr (wpAny_call_entry slot_fn_setattr (hT _ rfl) PySem.F.store_object.entry ?_ (PySem.F.store_object.args _ _ _)))
  rw [osa_eq, refuse_eq]
  refine wpAny_bind (wpAny_bind (wpAny_typeOf (hT _ rfl) (wpAny_bind (wpAny_of_eq mro_fn ?_))))
  rw [refuse_fn]
  refine wpAny_pure (wpAny_bind (wpAny_typeOf (hT _ rfl) (wpAny_bind (wpAny_of_eq fn_no_read ?_))))
  refine wpAny_bind (wpAny_of_eq (a := none) rfl ?_)
  show wpAny _ _ (storeInOwnDict _ _ _ _ _ _) _ _ _
  unfold storeInOwnDict
  refine wpAny_bind (wpAny_of_eq (a := ()) rfl ?_)
  have e1 : (Value.type "function" == Value.type "module") = false := by decide
  simp only [e1, Bool.false_eq_true, if_false]
  have hlt : f < s.heap.objs.size := Heap.lt_size ho
  have hne : f ≠ s.heap.objs.size := Nat.ne_of_lt hlt
  refine wpAny_bind ?_
  show wpAny _ _ (instanceDict f true) _ _ _
  unfold instanceDict
  refine wpAny_bind (wpAny_loadPart ho ?_)
  have e2 : (!true || !typeHasDict (Value.type "function")) = false := by decide +kernel
  simp only [e2, Bool.false_eq_true, if_false]
  refine wpAny_bind (wpAny_alloc ?_)
  have hf1 := Heap.get?_push_of_some (W.dictOf [] 0) ho
  have hd1 : (s.heap.push (W.dictOf [] 0)).get? s.heap.objs.size = some (W.dictOf [] 0) := Heap.get?_push_size _ rfl
  refine wpAny_bind (wpAny_update hf1 ?_)
  generalize hH2 : (s.heap.push (W.dictOf [] 0)).update f (fun o => { cls := o.cls, dict := some s.heap.objs.size, data := o.data, slots := o.slots }) = H2
  have hf2 : H2.get? f = some ⟨.type "function", some s.heap.objs.size, .func fd, #[]⟩ := by rw [← hH2]; exact Heap.get?_update_self _ hf1 rfl
  have hd2 : H2.get? s.heap.objs.size = some (W.dictOf [] 0) := by rw [← hH2]; exact (Heap.get?_update_ne _ _ _ _ (Ne.symm hne)).trans hd1
  have hk2 : ∀ b o, b ≠ f → s.heap.get? b = some o → H2.get? b = some o := fun b o hb e => by rw [← hH2]; exact (Heap.get?_update_ne _ _ _ _ hb).trans (Heap.get?_push_of_some _ e)
  refine wpAny_of_eq (a := some s.heap.objs.size) (by show dictMade _ _ _ = _; unfold dictMade; kernel_rfl) ?_
  show wpAny _ _ (storeInDict s.heap.objs.size _ _ _) _ _ { s with heap := H2, toks := s.toks + 1 }
  unfold storeInDict
  refine wpAny_bind (wpAny_of_eq (a := ()) rfl ?_)
  refine wpAny_bind ?_
  unfold nsSet
  refine wpAny_bind (wpAny_bind (wpAny_askSetting (wpAny_pure (wpAny_bind (wpAny_mkText (wpAny_bind (wpAny_loadPart hd2 ?_)))))))
  have e3 : aRefKeyMayBeTheName (Str.ofString "read") (([] : List DictEntry).toArray) = false := by rw [aRefKeyMayBeTheName_at]; simp
  show wpAny _ _ (if aRefKeyMayBeTheName (Str.ofString "read") (([] : List DictEntry).toArray) = true then _ else _) _ _ _
  rw [e3]
  refine wpAny_updatePart hd2 ?_
  generalize hhs : (if (Str.ofString "read").cps.isEmpty = true then (0 : Int) else reduceHash ({ program := (model prog w).prog, params := (model prog w).w.params : Setting }.params.strHash (Str.ofString "read").cps)) = hsh
  have hd3 : (H2.update s.heap.objs.size (Obj.putName (Str.ofString "read") hsh (Value.str (Str.ofString "read") (s.toks + 1)) v)).get? s.heap.objs.size = some (W.dictOf [⟨hsh, .str (Str.ofString "read") (s.toks + 1), v⟩] 1) := by
    have := Heap.get?_update_self (Obj.putName (Str.ofString "read") hsh (Value.str (Str.ofString "read") (s.toks + 1)) v) hd2 (by rw [putName_dict]; rfl)
    rw [this, putName_dict]; rfl
  refine wpAny_bind (wpAny_lookBehind hd3 (pastItsLine_dict (by simp [sizeLine_eq])) ?_)
  refine wpAny_pure ⟨_, rfl, wpAny_pure ?_⟩
  exact h _ _ _ hsh _ rfl hd3 ((Heap.get?_update_ne _ _ _ _ hne).trans hf2) (fun b o hb e => (Heap.get?_update_ne _ _ _ _ (Nat.ne_of_lt (Heap.lt_size e))).trans (hk2 b o hb e))
end
theorem slot_fn_ga : Slot "function" "__getattribute__" "object.__getattribute__" :=
  .of (owner := "object") (n := "__getattribute__") (by rw [typeLookup_type, builtinLookup_eq_fast]; kernel_rfl) (by decide +kernel) (by decide +kernel) (by decide +kernel)
    (by first | exact .inl (by decide +kernel) | exact .inr (by decide +kernel)) (by rw [isSubtype_type]; kernel_rfl)
theorem fn_no_getattr : typeLookup (.type "function") "__getattr__" = pure none := by rw [typeLookup_type, builtinLookup_eq_fast]; kernel_rfl
theorem entry_ga : entryFor table "object.__getattribute__" = some Builtin.«object.__getattribute__» := entryFor_of_tree (by kernel_rfl)
theorem args_ga (a b : Value) : argsOk "object.__getattribute__" ⟨[a, b], []⟩ := by unfold argsOk; kernel_rfl
section
variable {prog : Program} {w : World} {A : Around} {E : Value → Shared → Prop} {s : Shared} {f d : Addr} {fd : FuncData} {v : Value}
theorem get_fn_read {pl : Sem Bool} {Q : Value × List Value → Shared → Prop} {a hsh tn n} (ho : s.heap.get? f = some ⟨.type "function", some d, .func fd, #[]⟩) (hd : s.heap.get? d = some (W.dictOf [⟨hsh, .str (Str.ofString "read") tn, .ref a⟩] n))
    (h : ∀ k, Q (.ref a, []) { s with toks := k }) : wpAny (model prog w) A (getMethod (.ref f) (Str.ofString "read") pl) Q E s := by
  have hT : ∀ s' : Shared, s'.heap = s.heap → s'.TypeIs (.ref f) "function" := fun s' e => ⟨_, by rw [e]; exact ho, rfl⟩
  unfold getMethod
  refine wpAny_bind (wpAny_specialOf (hT _ rfl) slot_fn_ga.lookup ?_)
  have hc : (Manifest.canonical "object.__getattribute__" != "object.__getattribute__") = false := by decide +kernel
  show wpAny _ _ (if (Manifest.canonical "object.__getattribute__" != "object.__getattribute__") = true then _ else _) _ _ _
  rw [hc, if_neg Bool.false_ne_true]
  refine wpAny_bind (wpAny_specialOf (hT _ rfl) fn_no_getattr ?_)
  refine wpAny_bind (wpAny_specialOf (hT _ rfl) fn_no_read ?_)
  refine wpAny_bind ?_
  unfold getAttr
  refine wpAny_bind (wpAny_mkText ?_)
  unfold getAttrBy
  refine wpAny_holding (wpAny_bind (wpAny_typeOf (hT _ rfl) (wpAny_bind (wpAny_of_eq slot_fn_ga.lookup ?_))))
  show wpAny _ _ (getAttrByItsOwn _ _ _ _ _ _) _ _ _
  unfold getAttrByItsOwn
  refine wpAny_bind (wpAny_of_eq (a := none) rfl ?_)
  refine wpAny_bind (wpAny_attempt (wpAny_holding ?_))
  show wpAny _ _ (boundAndCalled _ _ _) _ _ _
  unfold boundAndCalled
  rw [slot_fn_ga.bind]
  refine wpAny_bind (wpAny_pure ?_)
  refine wpAny_call_entry slot_fn_ga (hT _ rfl) entry_ga ?_ (args_ga _ _)
  refine wpAny_bind (wpAny_of_eq (a := (.ref f, [.str (Str.ofString "read") s.toks])) rfl ?_)
  refine wpAny_bind (wpAny_of_eq (a := Str.ofString "read") rfl ?_)
  refine wpAny_bind (wpAny_typeOf (hT _ rfl) ?_)
  refine wpAny_bind ?_
  unfold find
  refine wpAny_bind (wpAny_of_eq fn_no_read ?_)
  refine wpAny_bind (wpAny_of_eq (a := none) rfl ?_)
  refine wpAny_bind (wpAny_of_eq (a := none) rfl ?_)
  show wpAny _ _ (ownThenClass _ _ _ _) _ _ _
  unfold ownThenClass
  refine wpAny_bind (wpAny_bind ?_)
  unfold ObjectAttr.ownDict
  refine wpAny_bind (wpAny_loadPart ho ?_)
  show wpAny _ _ (instanceDict f false) _ _ _
  unfold instanceDict
  refine wpAny_bind (wpAny_loadPart ho ?_)
  refine wpAny_pure ?_
  show wpAny _ _ (nsGet d (Str.ofString "read")) _ _ _
  have hn : s.heap.Ns d (fun x => if x = Str.ofString "read" then some (.ref a) else none) := by
    refine ⟨_, _, _, hd, rfl, ?_, ?_⟩
    · intro e he
      simp at he
      exact ⟨_, _, by rw [he]⟩
    · intro x
      unfold nsFind findBy
      by_cases hx : x = Str.ofString "read"
      · subst hx; simp [Value.isStr]
      · have hx' : (Str.ofString "read" == x) = false := by
          rw [beq_eq_false_iff_ne]; exact fun e => hx e.symm
        simp [Value.isStr, hx, hx']
  refine wpAny_nsGet hn ?_
  rw [if_pos rfl]
  refine wpAny_bind (wpAny_rule (wpAny_pure (wpAny_pure ⟨_, rfl, ?_⟩)))
  refine wpAny_of_eq (a := .ref a) rfl ?_
  exact wpAny_pure (h _)
end
end
section
open PySem PySem.W PyProof.Rows PySem.Calls

/-- what a reader's call gives -/
def ReadsOk (w : World) (H : Heap) (rd pl : Addr) (oct : List Int) : Prop :=
  ∀ (A : Around) (s : Shared) (Q E : Value → Shared → Prop) (pos many e : Nat) (tp tm : Tok), (∀ b o, H.get? b = some o → s.heap.get? b = some o) → s.heap.get? pl = some (listOf #[.int (pos : Int) tp] e) →
    A.depth < recursionLimit → A.handled = none → oct.length ≤ 100000 →
    (∀ bb t' h' tk tp', KBw.bInts bb = (oct.drop pos).take many → h'.get? pl = some (listOf #[.int ((pos + many : Nat) : Int) tp'] e) → (∀ b o, b ≠ pl → s.heap.get? b = some o → h'.get? b = some o) → Q (.bytes bb t') { s with heap := h', toks := tk }) →
    wpAny (model PR w) A (call (.ref rd) [.int (many : Int) tm]) Q E s

/-- a file: H bears it, but for its place at pl -/
def FileAt (w : World) (H : Heap) (v : Value) (pl : Addr) (oct : List Int) : Prop :=
  ∃ fl d rd fd hsh tn, v = .ref fl ∧ H.get? fl = some ⟨.type "function", some d, .func fd, #[]⟩ ∧ H.get? d = some (W.dictOf [⟨hsh, .str (Str.ofString "read") tn, .ref rd⟩] 1) ∧ ReadsOk w H rd pl oct ∧ H.get? pl = none ∧ FnAt rd H

theorem mem0 {α : Type} {a : α} {l : List α} : a ∈ a :: l := List.mem_cons_self ..
theorem mem1 {α : Type} {a b : α} {l : List α} : a ∈ b :: a :: l := List.mem_cons_of_mem _ mem0
theorem mem2 {α : Type} {a b c : α} {l : List α} : a ∈ b :: c :: a :: l := List.mem_cons_of_mem _ mem1
theorem mem3 {α : Type} {a b c d : α} {l : List α} : a ∈ b :: c :: d :: a :: l := List.mem_cons_of_mem _ mem2
theorem mem4 {α : Type} {a b c d e : α} {l : List α} : a ∈ b :: c :: d :: e :: a :: l := List.mem_cons_of_mem _ mem3
theorem mem5 {α : Type} {a b c d e f : α} {l : List α} : a ∈ b :: c :: d :: e :: f :: a :: l := List.mem_cons_of_mem _ mem4
theorem mem6 {α : Type} {a b c d e f g : α} {l : List α} : a ∈ b :: c :: d :: e :: f :: g :: a :: l := List.mem_cons_of_mem _ mem5
/-- h cut down to what B bears and to the addresses of as -/
def onlyOf (h B : Heap) (as : List Addr) : Heap := hideAll h ((List.range h.objs.size).filter fun a => (B.get? a).isNone && !as.contains a)
theorem only_get {h B : Heap} {as : List Addr} {b : Addr} {o : Obj} (e : h.get? b = some o) (k : B.get? b ≠ none ∨ b ∈ as) : (onlyOf h B as).get? b = some o :=
  hideAll_get _ e fun q => by
    have q := (List.mem_filter.mp q).2
    rw [Bool.and_eq_true] at q
    rcases k with k | k
    · exact k (Option.isNone_iff_eq_none.mp q.1)
    · have := q.2
      rw [List.contains_iff_mem.mpr k] at this
      cases this
theorem of_only {h B : Heap} {as : List Addr} {b : Addr} {o : Obj} (e : (onlyOf h B as).get? b = some o) : h.get? b = some o ∧ (B.get? b ≠ none ∨ b ∈ as) := by
  have e1 := of_hideAll _ e
  refine ⟨e1, ?_⟩
  by_cases k1 : B.get? b = none
  · by_cases k2 : b ∈ as
    · exact .inr k2
    · exfalso
      have : (onlyOf h B as).get? b = none := hideAll_none _ (List.mem_filter.mpr ⟨List.mem_range.mpr (Heap.lt_size e1), by simp [k1, k2]⟩)
      rw [this] at e; cases e
  · exact .inl k1
theorem of_only_pairs {h B : Heap} {fs : List (Addr × Obj)} (hB : ∀ b o, B.get? b = some o → h.get? b = some o) (hf : ∀ p ∈ fs, h.get? p.1 = some p.2) {b : Addr} {o : Obj} (e : (onlyOf h B (fs.map (·.1))).get? b = some o) : B.get? b = some o ∨ (b, o) ∈ fs := by
  obtain ⟨e1, k⟩ := of_only e
  rcases k with k | k
  · cases q : B.get? b with
    | none => exact absurd q k
    | some o' => rw [hB _ _ q] at e1; cases e1; exact .inl rfl
  · obtain ⟨p, hp, e2⟩ := List.mem_map.mp k
    have h1 := hf p hp
    rw [e2, e1] at h1
    cases h1
    rw [← e2]; exact .inr hp
theorem only_none {h B : Heap} {as : List Addr} {b : Addr} (k1 : B.get? b = none) (k2 : b ∉ as) : (onlyOf h B as).get? b = none := by
  cases q : (onlyOf h B as).get? b with
  | none => rfl
  | some o => rcases (of_only q).2 with k | k
              · exact absurd k1 k
              · exact absurd k k2

theorem file_end {w : World} {A : Around} {s : Shared} {g B : Heap} {L' : Addr} {m : Str → Option Value} {E : Value → Shared → Prop} {Q : Unit → Shared → Prop} {fl c2 rd c1 pl cp co : Addr} {fdl : FuncData} { oc2 ord oc1 op oo : Obj} {t0 : Tok} {ps : Array Value} {oct : List Int} {rest : List (Addr × Obj)}
    (hBg : ∀ b o, B.get? b = some o → g.get? b = some o) (F : Fr g L' s.heap m) (N : News g L' s.heap ((fl, ⟨.type "function", none, .func fdl, #[]⟩) :: (c2, oc2) :: (rd, ord) :: (c1, oc1) :: (pl, listOf #[.int 0 t0] 0) :: (cp, op) :: (co, oo) :: (100, tabObj ps) :: rest))
    (d1 : fl ≠ rd ∧ fl ≠ pl ∧ fl ≠ cp ∧ fl ≠ co ∧ fl ≠ c1) (d2 : pl ≠ rd ∧ pl ≠ cp ∧ pl ≠ co ∧ pl ≠ c1)
    (hord : ∃ oc od fd sl, ord = ⟨oc, od, .func fd, sl⟩) (hRO : ∀ H, H.get? rd = some ord → H.get? c1 = some oc1 → H.get? cp = some op → H.get? co = some oo → (∀ b o, B.get? b = some o → H.get? b = some o) → H.get? pl = none → ReadsOk w H rd pl oct)
    (h : ∀ h' tk H d od ofl, FileAt w H (.ref fl) pl oct → (∀ b o, H.get? b = some o → h'.get? b = some o) → (∀ b o, B.get? b = some o → H.get? b = some o) → (∀ b o, H.get? b = some o → B.get? b = some o ∨ (b, o) ∈ [(fl, ofl), (d, od), (rd, ord), (cp, op), (co, oo), (c1, oc1)]) → (∀ p ∈ [(fl, ofl), (d, od), (rd, ord), (cp, op), (co, oo), (c1, oc1)], H.get? p.1 = some p.2) → L' < d → d ≠ pl → (∀ b o, b ≠ fl → s.heap.get? b = some o → h'.get? b = some o) → H.get? c1 = some oc1 → 
      Fr g L' h' m → News g L' h' [] → Q () { s with heap := h', toks := tk }) :
    wpAny (model PR w) A (setAttr (.ref fl) (Str.ofString "read") (.ref rd)) Q E s := by
  have n0 := N _ (List.mem_cons_self ..)
  have nrd := N (rd, ord) mem2
  have npl := N (pl, listOf #[.int 0 t0] 0) mem4
  have ncp := N (cp, op) mem5
  have nco := N (co, oo) mem6
  have nc1 := N (c1, oc1) mem3
  obtain ⟨e2, e4, e5, e6, e3⟩ := d1
  obtain ⟨q2, q4, q5, q3⟩ := d2
  refine set_fn n0.1 ?_
  intro h' d tk hsh tn hd0 hd hf hk
  have hdne : ∀ b o, s.heap.get? b = some o → d ≠ b := fun b o e q => by rw [hd0] at q; exact absurd (Heap.lt_size e) (q ▸ Nat.lt_irrefl _)
  have F' : Fr g L' h' m := by
    obtain ⟨oL, es, ep, hL, r⟩ := F.ns
    exact ⟨⟨oL, es, ep, hk _ _ (Ne.symm n0.2.1) hL, r⟩, fun b o e => hk b o (fun q => by rw [q, n0.2.2] at e; cases e) (F.keep b o e), F.above⟩
  have hBh : ∀ b o, B.get? b = some o → h'.get? b = some o := fun b o e => F'.keep b o (hBg b o e)
  have hBpl : B.get? pl = none := by
    cases q : B.get? pl with
    | none => rfl
    | some o => have := hBg _ _ q; rw [npl.2.2] at this; cases this
  have hrd := hk _ _ (Ne.symm e2) nrd.1
  have hcp := hk _ _ (Ne.symm e5) ncp.1
  have hco := hk _ _ (Ne.symm e6) nco.1
  have hc1 := hk _ _ (Ne.symm e3) nc1.1
  have hfs : ∀ p ∈ ([(fl, ⟨.type "function", some d, .func fdl, #[]⟩), (d, (W.dictOf [⟨hsh, .str (Str.ofString "read") tn, .ref rd⟩] 1)), (rd, ord), (cp, op), (co, oo), (c1, oc1)] : List (Addr × Obj)), h'.get? p.1 = some p.2 := by
    refine List.forall_mem_cons.mpr ⟨hf, List.forall_mem_cons.mpr ⟨hd, List.forall_mem_cons.mpr ⟨hrd, List.forall_mem_cons.mpr ⟨hcp, List.forall_mem_cons.mpr ⟨hco, List.forall_mem_cons.mpr ⟨hc1, fun _ h => nomatch h⟩⟩⟩⟩⟩⟩
  generalize hG : ([(fl, ⟨.type "function", some d, .func fdl, #[]⟩), (d, (W.dictOf [⟨hsh, .str (Str.ofString "read") tn, .ref rd⟩] 1)), (rd, ord), (cp, op), (co, oo), (c1, oc1)] : List (Addr × Obj)) = fs at hfs
  have up : ∀ p ∈ fs, (onlyOf h' B (fs.map (·.1))).get? p.1 = some p.2 := fun p hp => only_get (hfs p hp) (.inr (List.mem_map_of_mem hp))
  have bup : ∀ b o, B.get? b = some o → (onlyOf h' B (fs.map (·.1))).get? b = some o := fun b o e => only_get (hBh b o e) (.inl (by rw [e]; exact fun q => nomatch q))
  have hpl0 : (onlyOf h' B (fs.map (·.1))).get? pl = none := only_none hBpl (by
    rw [← hG]
    have := hdne _ _ npl.1
    simp only [List.map_cons, List.map_nil, List.mem_cons, List.not_mem_nil, or_false]
    rintro (q | q | q | q | q | q)
    · exact e4 q.symm
    · exact this q.symm
    · exact q2 q
    · exact q4 q
    · exact q5 q
    · exact q3 q)
  refine h h' tk (onlyOf h' B (fs.map (·.1))) d _ _ ⟨fl, d, rd, fdl, hsh, tn, rfl, (up (fl, _) (hG ▸ mem0)), (up (d, _) (hG ▸ mem1)), hRO _ (up (rd, ord) (hG ▸ mem2)) (up (c1, oc1) (hG ▸ mem5)) (up (cp, op) (hG ▸ mem3)) (up (co, oo) (hG ▸ mem4)) bup hpl0, hpl0, let ⟨oc, od, fd, sl, e⟩ := hord; ⟨oc, od, fd, sl, e ▸ (up (rd, ord) (hG ▸ mem2))⟩⟩ (fun b o e => (of_only e).1) bup (fun b o e => by rw [hG]; exact of_only_pairs hBh hfs e) (fun p hp => up p (hG ▸ hp)) ?_ (hdne _ _ npl.1) (fun b o hb e => hk b o hb e) (up (c1, oc1) (hG ▸ mem5)) F' News.nil
  rw [hd0]; exact F.ns.lt

theorem file_end2 {w : World} {A : Around} {s : Shared} {g B : Heap} {L' : Addr} {m : Str → Option Value} {E : Value → Shared → Prop} {Q : Unit → Shared → Prop} {fl rd pl cp co : Addr} {fdl : FuncData} { ord op oo : Obj} {t0 : Tok} {ps : Array Value} {oct : List Int} {rest : List (Addr × Obj)}
    (hBg : ∀ b o, B.get? b = some o → g.get? b = some o) (F : Fr g L' s.heap m) (N : News g L' s.heap ((fl, ⟨.type "function", none, .func fdl, #[]⟩) :: (rd, ord) :: (pl, listOf #[.int 0 t0] 0) :: (cp, op) :: (co, oo) :: (100, tabObj ps) :: rest))
    (d1 : fl ≠ rd ∧ fl ≠ pl ∧ fl ≠ cp ∧ fl ≠ co) (d2 : pl ≠ rd ∧ pl ≠ cp ∧ pl ≠ co)
    (hord : ∃ oc od fd sl, ord = ⟨oc, od, .func fd, sl⟩) (hRO : ∀ H, H.get? rd = some ord → H.get? cp = some op → H.get? co = some oo → (∀ b o, B.get? b = some o → H.get? b = some o) → H.get? pl = none → ReadsOk w H rd pl oct)
    (h : ∀ h' tk H d od ofl, FileAt w H (.ref fl) pl oct → (∀ b o, H.get? b = some o → h'.get? b = some o) → (∀ b o, B.get? b = some o → H.get? b = some o) → (∀ b o, H.get? b = some o → B.get? b = some o ∨ (b, o) ∈ [(fl, ofl), (d, od), (rd, ord), (cp, op), (co, oo)]) → (∀ p ∈ [(fl, ofl), (d, od), (rd, ord), (cp, op), (co, oo)], H.get? p.1 = some p.2) → L' < d → d ≠ pl → (∀ b o, b ≠ fl → s.heap.get? b = some o → h'.get? b = some o) → 
      Fr g L' h' m → News g L' h' [] → Q () { s with heap := h', toks := tk }) :
    wpAny (model PR w) A (setAttr (.ref fl) (Str.ofString "read") (.ref rd)) Q E s := by
  have n0 := N _ (List.mem_cons_self ..)
  have nrd := N (rd, ord) mem1
  have npl := N (pl, listOf #[.int 0 t0] 0) mem2
  have ncp := N (cp, op) mem3
  have nco := N (co, oo) mem4
  obtain ⟨e2, e4, e5, e6⟩ := d1
  obtain ⟨q2, q4, q5⟩ := d2
  refine set_fn n0.1 ?_
  intro h' d tk hsh tn hd0 hd hf hk
  have hdne : ∀ b o, s.heap.get? b = some o → d ≠ b := fun b o e q => by rw [hd0] at q; exact absurd (Heap.lt_size e) (q ▸ Nat.lt_irrefl _)
  have F' : Fr g L' h' m := by
    obtain ⟨oL, es, ep, hL, r⟩ := F.ns
    exact ⟨⟨oL, es, ep, hk _ _ (Ne.symm n0.2.1) hL, r⟩, fun b o e => hk b o (fun q => by rw [q, n0.2.2] at e; cases e) (F.keep b o e), F.above⟩
  have hBh : ∀ b o, B.get? b = some o → h'.get? b = some o := fun b o e => F'.keep b o (hBg b o e)
  have hBpl : B.get? pl = none := by
    cases q : B.get? pl with
    | none => rfl
    | some o => have := hBg _ _ q; rw [npl.2.2] at this; cases this
  have hrd := hk _ _ (Ne.symm e2) nrd.1
  have hcp := hk _ _ (Ne.symm e5) ncp.1
  have hco := hk _ _ (Ne.symm e6) nco.1
  have hfs : ∀ p ∈ ([(fl, ⟨.type "function", some d, .func fdl, #[]⟩), (d, (W.dictOf [⟨hsh, .str (Str.ofString "read") tn, .ref rd⟩] 1)), (rd, ord), (cp, op), (co, oo)] : List (Addr × Obj)), h'.get? p.1 = some p.2 := by
    refine List.forall_mem_cons.mpr ⟨hf, List.forall_mem_cons.mpr ⟨hd, List.forall_mem_cons.mpr ⟨hrd, List.forall_mem_cons.mpr ⟨hcp, List.forall_mem_cons.mpr ⟨hco, fun _ h => nomatch h⟩⟩⟩⟩⟩
  generalize hG : ([(fl, ⟨.type "function", some d, .func fdl, #[]⟩), (d, (W.dictOf [⟨hsh, .str (Str.ofString "read") tn, .ref rd⟩] 1)), (rd, ord), (cp, op), (co, oo)] : List (Addr × Obj)) = fs at hfs
  have up : ∀ p ∈ fs, (onlyOf h' B (fs.map (·.1))).get? p.1 = some p.2 := fun p hp => only_get (hfs p hp) (.inr (List.mem_map_of_mem hp))
  have bup : ∀ b o, B.get? b = some o → (onlyOf h' B (fs.map (·.1))).get? b = some o := fun b o e => only_get (hBh b o e) (.inl (by rw [e]; exact fun q => nomatch q))
  have hpl0 : (onlyOf h' B (fs.map (·.1))).get? pl = none := only_none hBpl (by
    rw [← hG]
    have := hdne _ _ npl.1
    simp only [List.map_cons, List.map_nil, List.mem_cons, List.not_mem_nil, or_false]
    rintro (q | q | q | q | q)
    · exact e4 q.symm
    · exact this q.symm
    · exact q2 q
    · exact q4 q
    · exact q5 q)
  refine h h' tk (onlyOf h' B (fs.map (·.1))) d _ _ ⟨fl, d, rd, fdl, hsh, tn, rfl, (up (fl, _) (hG ▸ mem0)), (up (d, _) (hG ▸ mem1)), hRO _ (up (rd, ord) (hG ▸ mem2)) (up (cp, op) (hG ▸ mem3)) (up (co, oo) (hG ▸ mem4)) bup hpl0, hpl0, let ⟨oc, od, fd, sl, e⟩ := hord; ⟨oc, od, fd, sl, e ▸ (up (rd, ord) (hG ▸ mem2))⟩⟩ (fun b o e => (of_only e).1) bup (fun b o e => by rw [hG]; exact of_only_pairs hBh hfs e) (fun p hp => up p (hG ▸ hp)) ?_ (hdne _ _ npl.1) (fun b o hb e => hk b o hb e) F' News.nil
  rw [hd0]; exact F.ns.lt

theorem not3 {a1 a2 a3 b : Addr} {o1 o2 o3 : Obj} (h1 : a1 ≠ b) (h2 : a2 ≠ b) (h3 : a3 ≠ b) : ∀ p ∈ [(a1, o1), (a2, o2), (a3, o3)], p.1 ≠ b :=
  List.forall_mem_cons.mpr ⟨h1, List.forall_mem_cons.mpr ⟨h2, List.forall_mem_cons.mpr ⟨h3, fun _ h => nomatch h⟩⟩⟩
theorem reads_of_body {w : World} {loose : List Str} {mean : ExcName → Option Value} {mg mb : Str → Option Value} {H g : Heap} {qual : Str} {params : Arguments} {body : List Stmt} {scope : Scope} {doc pm ctv : Value} {rd c1 pl cp co : Addr} {oc1 op oo : Obj} {vs1 : Array Value} {tq t : Tok} {b : Array UInt8} {oct : List Int}
    (X : (Mine.hd.heap_39 w.params).In g) (T : Top topProg loose mean mg mb g) (C : CodeHd g 104 100)
    (hop : op.data = .cell (some (.ref pl))) (hoo : oo.data = .cell (some (.bytes b t))) (hb : KBw.bInts b = oct) (hcd1 : oc1.data = .fields vs1) (hcd2 : vs1[1]? = some (.str qual tq))
    (g0 : g.get? cp = none) (g1 : g.get? co = none) (hne : @Ne Nat cp co)
    (hbind : ∀ s v, BindsTo s (fnX (Str.ofString "read") qual params body scope [(Str.ofString "place", cp), (Str.ofString "octets", co)] .none .none doc pm none (.ref c1) ctv) ⟨[v], []⟩ [(Str.ofString "many", v)])
    (hloc : scope.names.lookup (Str.ofString "many") = some .local) (hcell : ∀ x ∈ scope.names, x.2 ≠ .cell) (hco' : scope.isCoroutine = false) (hgen : scope.isGenerator = false) (hkd : scope.kind = .function)
    (hbody : ∀ (A : Around) (s : Shared) (g2 h2 : Heap) (L2 pl cp co : Addr) (op oo : Obj) (pos many e : Nat) (tp tm t : Tok) (tk0 : Nat) (b : Array UInt8) (Q : Flow → Shared → Prop), (Mine.hd.heap_39 w.params).In g2 → Top topProg loose mean mg mb g2 → CodeHd g2 104 100 →
      Fr g2 L2 h2 (fun y => List.lookup y [(Str.ofString "many", .int (many : Int) tm)]) → News g2 L2 h2 [(pl, listOf #[.int (pos : Int) tp] e), (cp, op), (co, oo)] → op.data = .cell (some (.ref pl)) → oo.data = .cell (some (.bytes b t)) → KBw.bInts b = oct →
      @Ne Nat pl cp → @Ne Nat pl co → @Ne Nat cp co → A.handled = none → oct.length ≤ 100000 →
      (∀ bb t' h' tk tp' m', KBw.bInts bb = (oct.drop pos).take many → Fr g2 L2 h' m' → News g2 L2 h' [(pl, listOf #[.int ((pos + many : Nat) : Int) tp'] e), (cp, op), (co, oo)] → Q (.ret (.bytes bb t')) { s with heap := h', toks := tk }) →
      wpAny (model PR w) (A.deeper (envX qual scope L2 rd (.ref c1) [(Str.ofString "place", cp), (Str.ofString "octets", co)])) (execs body (envX qual scope L2 rd (.ref c1) [(Str.ofString "place", cp), (Str.ofString "octets", co)])) Q (fun _ _ => False) { s with heap := h2, toks := tk0 })
    (hrd : H.get? rd = some (fnMade (Str.ofString "read") qual params body scope [(Str.ofString "place", cp), (Str.ofString "octets", co)] doc pm c1 ctv)) (hc1 : H.get? c1 = some oc1) (hcp : H.get? cp = some op) (hco : H.get? co = some oo) (hgH : ∀ b o, g.get? b = some o → H.get? b = some o) (hplH : H.get? pl = none) : ReadsOk w H rd pl oct := by
  intro A s Q E pos many e tp tm hk hpl hd hh hol ret
  have hgs : ∀ b o, g.get? b = some o → s.heap.get? b = some o := fun b o e => hk _ _ (hgH _ _ e)
  have hp1 : @Ne Nat pl cp := fun q => by rw [q, hcp] at hplH; cases hplH
  have hp2 : @Ne Nat pl co := fun q => by rw [q, hco] at hplH; cases hplH
  have hg0 : g.get? pl = none := by
    cases q : g.get? pl with
    | none => rfl
    | some o => rw [hgH _ _ q] at hplH; cases hplH
  refine wpAny_call ?_
  refine enter (muts := [(pl, listOf #[Value.int (pos : Int) tp] e), (cp, op), (co, oo)]) (binds := [(Str.ofString "many", .int (many : Int) tm)]) (List.forall_mem_cons.mpr ⟨hpl, List.forall_mem_cons.mpr ⟨hk _ _ hcp, List.forall_mem_cons.mpr ⟨hk _ _ hco, fun _ h => nomatch h⟩⟩⟩) (T.nolimit.keeps hgs) (hk _ _ hrd) rfl ⟨_, _, _, _, rfl, hk _ _ hc1, hcd1, hcd2⟩ hd (hbind _ _)
    (fun y hy => by rw [List.mem_singleton.mp hy]; exact hloc) ?_ hcell hco' hgen hkd
  intro L2 h2 F2 N2 lt2
  have hgg : ∀ b o, g.get? b = some o → (hideAll s.heap ([(pl, listOf #[Value.int (pos : Int) tp] e), (cp, op), (co, oo)].map (·.1))).get? b = some o := fun b o e => hide_in (hgs b o e) (not3 (fun q => by rw [← q, hg0] at e; cases e) (fun q => by rw [← q, g0] at e; cases e) (fun q => by rw [← q, g1] at e; cases e))
  refine hbody A s _ h2 L2 pl cp co op oo pos many e tp tm t _ b _ (X.keeps hgg) (T.keeps hgg) (C.keeps hgg) F2 N2 hop hoo hb hp1 hp2 hne hh hol ?_
  intro bb t' h' tk tp' m' hbb F' N'
  refine ret bb t' h' tk tp' hbb (N' _ (List.mem_cons_self ..)).1 fun b' o hb' e' => ?_
  by_cases q1 : b' = cp
  · rw [q1] at e' ⊢; rw [hk _ _ hcp] at e'; cases e'; exact (N' (cp, op) (by simp)).1
  · by_cases q2 : b' = co
    · rw [q2] at e' ⊢; rw [hk _ _ hco] at e'; cases e'; exact (N' (co, oo) (by simp)).1
    · exact F'.keep _ _ (hide_in e' (not3 (fun q => hb' q.symm) (fun q => q1 q.symm) (fun q => q2 q.symm)))
theorem cut_eq (ks : List Int) (pos many : Nat) : List.take (clipAt ks.length ((pos : Int) + (many : Int)) - clipAt ks.length (pos : Int)) (List.drop (clipAt ks.length (pos : Int)) ks) = (ks.drop pos).take many := by
  rw [← Int.natCast_add, clipAt_nat, clipAt_nat, kmk_drop_min]
  apply List.take_eq_take_iff.mpr
  rw [List.length_drop]
  omega
def qRead : Str := (Str.ofString "_law_file" ++ Str.ofString ".<locals>.") ++ Str.ofString "read"
/-- the table of the codes that _law_file makes, behind its first call -/
def TabOk (H : Heap) (ps : Array Value) : Prop :=
  ∃ c1 c2 oc1 vs1 tq1, ps = #[rawInt 108, rawInt 4, .ref c1, rawInt 112, rawInt 11, .ref c2] ∧ H.get? c1 = some oc1 ∧ oc1.data = .fields vs1 ∧ vs1[1]? = some (.str qRead tq1)
theorem TabOk.keeps {H H' : Heap} {ps : Array Value} (x : TabOk H ps) (k : ∀ b o, H.get? b = some o → H'.get? b = some o) : TabOk H' ps :=
  let ⟨c1, c2, oc1, vs1, tq1, e, a, r⟩ := x; ⟨c1, c2, oc1, vs1, tq1, e, k _ _ a, r⟩
end
section
open PySem PySem.W PyProof.Rows PySem.Calls

theorem none_of {B g : Heap} {a : Addr} (h : ∀ b o, B.get? b = some o → g.get? b = some o) (e : g.get? a = none) : B.get? a = none := by
  cases q : B.get? a with
  | none => rfl
  | some o => rw [h _ _ q] at e; cases e
theorem file_first {w : World} {loose : List Str} {mean : ExcName → Option Value} {mg mb : Str → Option Value} {A : Around} {s : Shared} {Q E : Value → Shared → Prop} {B : Heap} {b : Array UInt8} {t : Tok} {ks : List Int}
    (O : Ok w loose mean mg mb B) (hB : ∀ b o, B.get? b = some o → s.heap.get? b = some o) (h100 : B.get? 100 = none) (hP : s.heap.get? 100 = some (tabObj #[])) (hdp : A.depth < recursionLimit) (hh : A.handled = none) (hb : KBw.bInts b = ks)
    (ret : ∀ v H pl t0 h' tk ps f1 f2 f3 f4 f5 f6 o1 o2 o3 o4 o5 o6, FileAt w H v pl ks → (∀ b o, H.get? b = some o → h'.get? b = some o) → (∀ b o, B.get? b = some o → H.get? b = some o) → (∀ b o, H.get? b = some o → B.get? b = some o ∨ (b, o) ∈ [(f1, o1), (f2, o2), (f3, o3), (f4, o4), (f5, o5), (f6, o6)]) → (∀ p ∈ [(f1, o1), (f2, o2), (f3, o3), (f4, o4), (f5, o5), (f6, o6)], H.get? p.1 = some p.2) → (∀ p ∈ [(f1, o1), (f2, o2), (f3, o3), (f4, o4), (f5, o5), (f6, o6)], s.heap.objs.size ≤ p.1 ∧ p.1 ≠ pl) → h'.get? pl = some (listOf #[.int 0 t0] 0) → s.heap.objs.size ≤ pl → h'.get? 100 = some (tabObj ps) → TabOk H ps → (∀ b o, b ≠ 100 → s.heap.get? b = some o → h'.get? b = some o) → Q v { s with heap := h', toks := tk }) :
    wpAny (model PR w) A (call (.ref 105) [.bytes b t]) Q E s := by
  w_top off
  k_with_none
  (have kfill0 : (Mine.hd.heap_39 = Mine.hd.heap_39) ∧ PySem.Challenge.rw_mr0056_01 = PySem.Challenge.rw_mr0056_01 := by (k_fill; exact ⟨rfl, rfl⟩)); clear kfill0
  obtain ⟨X, T, C⟩ := O
  refine wpAny_call ?_
  refine' enterKC (muts := [(100, tabObj #[])]) (binds := [(Str.ofString "octets", .bytes b t)]) (p := topProg) (X.keeps hB) (T.nolimit.keeps hB) (fun p hp => by rw [List.mem_singleton.mp hp]; exact hP) ?k6 ?k7 ?k8 ?k9 ?kB ?kD ?_ ?c2 ?c3 ?c4
  (case k6 => k_is)
  (case k7 => k_is)
  (case k8 => k_room)
  (case k9 => exact BindsTo.of_eq rfl)
  (case kB => exact rfl)
  (case kD => decide +kernel)
  (case c2 => exact rfl)
  (case c3 => exact rfl)
  (case c4 => exact rfl)
  intro g L' h₁ tk cells hk hk2 hmn hsz hL F N Y l1
  k_fold
  have hBg : ∀ b o, B.get? b = some o → g.get? b = some o := fun b o e => hk b o (hB b o e) (fun p hp q => by rw [List.mem_singleton.mp hp] at q; simp only at q; rw [← q, h100] at e; cases e)
  have hO : Ok w loose mean mg mb B := ⟨X, T, C⟩
  replace X := X.keeps hBg
  replace T := T.keeps hBg
  replace C := C.keeps hBg
  k_lt l1
  k_cells Y
  simp only [List.cons_append, List.nil_append] at N
  k_steps
  rename Fr _ _ _ _ => FF
  rename News _ _ _ _ => NN
  refine file_end (oct := ks) hBg FF NN (by refine ⟨?_, ?_, ?_, ?_, ?_⟩ <;> k_ne) (by refine ⟨?_, ?_, ?_, ?_⟩ <;> k_ne) ⟨_, _, _, _, rfl⟩ ?_ ?_
  · intro H hrd hc1 hcp hco hgH hplH
    refine reads_of_body hO.X hO.T hO.C (by assumption) (by assumption) hb (by assumption) (by assumption) (none_of hBg (NN (_, _) (by k_mem)).2.2) (none_of hBg (NN (_, _) (by k_mem)).2.2) (by omega) (fun s v => BindsTo.of_eq rfl) rfl (by decide) rfl rfl rfl ?_ hrd hc1 hcp hco hgH hplH
    intro A2 s2 g2 h2 L2 pl cp co op oo pos many e tp tm t2 tk2 b2 Q2 X2 T2 C2 F2 N2 hop hoo hb2 ne1 ne2 ne3 hh2 hol ret2
    clear X T C FF NN
    k_steps
    refine ret2 _ _ _ _ (tk2 + 1 + 1) _ ?_ (by assumption) ?_
    · rename KBw.bInts (KBy.picked _ _ _) = _ => hcut
      exact hcut.trans (cut_eq ks pos many)
    · rw [show ((pos + many : Nat) : Int) = (pos : Int) + (many : Int) by omega]; assumption
  · intro h' tk' H d od ofl hF hH hBH hHB hHf hdl hdp hkp hc1 FF2 NN2
    have hpl' := hkp _ _ (by k_ne) (NN (_, listOf #[.int 0 _] 0) mem4).1
    have hP' := hkp _ _ (by k_ne) (NN (100, tabObj _) (by k_mem)).1
    clear FF NN
    k_steps
    refine ret _ H _ _ _ _ _ _ _ _ _ _ _ _ _ _ _ _ _ hF hH hBH hHB hHf ?_ hpl' ?_ hP' ⟨_, _, _, _, _, rfl, hc1, by assumption, by assumption⟩ (fun b o hb e => Fr.keep (by assumption) b o (hk b o e (fun p hp q => by rw [List.mem_singleton.mp hp] at q; exact hb q.symm)))
    · refine List.forall_mem_cons.mpr ⟨⟨by omega, by k_ne⟩, List.forall_mem_cons.mpr ⟨⟨by rw [← hL]; exact Nat.le_of_lt hdl, hdp⟩, List.forall_mem_cons.mpr ⟨⟨by omega, by k_ne⟩, List.forall_mem_cons.mpr ⟨⟨by omega, by k_ne⟩, List.forall_mem_cons.mpr ⟨⟨by omega, by k_ne⟩, List.forall_mem_cons.mpr ⟨⟨by omega, by k_ne⟩, fun _ h => nomatch h⟩⟩⟩⟩⟩⟩
    · omega
theorem file_hit {w : World} {loose : List Str} {mean : ExcName → Option Value} {mg mb : Str → Option Value} {A : Around} {s : Shared} {Q E : Value → Shared → Prop} {B : Heap} {b : Array UInt8} {t : Tok} {ks : List Int} {ps0 : Array Value}
    (O : Ok w loose mean mg mb B) (hB : ∀ b o, B.get? b = some o → s.heap.get? b = some o) (h100 : B.get? 100 = none) (hP : s.heap.get? 100 = some (tabObj ps0)) (hT : TabOk B ps0) (hdp : A.depth < recursionLimit) (hh : A.handled = none) (hb : KBw.bInts b = ks)
    (ret : ∀ v H pl t0 h' tk f1 f2 f3 f4 f5 o1 o2 o3 o4 o5, FileAt w H v pl ks → (∀ b o, H.get? b = some o → h'.get? b = some o) → (∀ b o, B.get? b = some o → H.get? b = some o) → (∀ b o, H.get? b = some o → B.get? b = some o ∨ (b, o) ∈ [(f1, o1), (f2, o2), (f3, o3), (f4, o4), (f5, o5)]) → (∀ p ∈ [(f1, o1), (f2, o2), (f3, o3), (f4, o4), (f5, o5)], H.get? p.1 = some p.2) → (∀ p ∈ [(f1, o1), (f2, o2), (f3, o3), (f4, o4), (f5, o5)], s.heap.objs.size ≤ p.1 ∧ p.1 ≠ pl) → h'.get? pl = some (listOf #[.int 0 t0] 0) → s.heap.objs.size ≤ pl → (∀ b o, s.heap.get? b = some o → h'.get? b = some o) → Q v { s with heap := h', toks := tk }) :
    wpAny (model PR w) A (call (.ref 105) [.bytes b t]) Q E s := by
  w_top off
  k_with_none
  (have kfill0 : (Mine.hd.heap_39 = Mine.hd.heap_39) ∧ PySem.Challenge.rw_mr0056_01 = PySem.Challenge.rw_mr0056_01 := by (k_fill; exact ⟨rfl, rfl⟩)); clear kfill0
  obtain ⟨X, T, C⟩ := O
  obtain ⟨c1, c2, oc1, vs1, tq1, rfl, hc1, hc1a, hc1b⟩ := hT
  refine wpAny_call ?_
  refine' enterKC (muts := [(100, tabObj #[rawInt 108, rawInt 4, .ref c1, rawInt 112, rawInt 11, .ref c2])]) (binds := [(Str.ofString "octets", .bytes b t)]) (p := topProg) (X.keeps hB) (T.nolimit.keeps hB) (fun p hp => by rw [List.mem_singleton.mp hp]; exact hP) ?k6 ?k7 ?k8 ?k9 ?kB ?kD ?_ ?c2 ?c3 ?c4
  (case k6 => k_is)
  (case k7 => k_is)
  (case k8 => k_room)
  (case k9 => exact BindsTo.of_eq rfl)
  (case kB => exact rfl)
  (case kD => decide +kernel)
  (case c2 => exact rfl)
  (case c3 => exact rfl)
  (case c4 => exact rfl)
  intro g L' h₁ tk cells hk hk2 hmn hsz hL F N Y l1
  k_fold
  have hBg : ∀ b o, B.get? b = some o → g.get? b = some o := fun b o e => hk b o (hB b o e) (fun p hp q => by rw [List.mem_singleton.mp hp] at q; simp only at q; rw [← q, h100] at e; cases e)
  have hO : Ok w loose mean mg mb B := ⟨X, T, C⟩
  replace X := X.keeps hBg
  replace T := T.keeps hBg
  replace C := C.keeps hBg
  have hc1g := hBg _ _ hc1
  k_lt l1
  k_cells Y
  simp only [List.cons_append, List.nil_append] at N
  k_steps
  rename Fr _ _ _ _ => FF
  rename News _ _ _ _ => NN
  refine file_end2 (oct := ks) hBg FF NN (by refine ⟨?_, ?_, ?_, ?_⟩ <;> k_ne) (by refine ⟨?_, ?_, ?_⟩ <;> k_ne) ⟨_, _, _, _, rfl⟩ ?_ ?_
  · intro H hrd hcp hco hgH hplH
    refine reads_of_body hO.X hO.T hO.C (by assumption) (by assumption) hb hc1a hc1b (none_of hBg (NN (_, _) (by k_mem)).2.2) (none_of hBg (NN (_, _) (by k_mem)).2.2) (by omega) (fun s v => BindsTo.of_eq rfl) rfl (by decide) rfl rfl rfl ?_ hrd (hgH _ _ hc1) hcp hco hgH hplH
    intro A2 s2 g2 h2 L2 pl cp co op oo pos many e tp tm t2 tk2 b2 Q2 X2 T2 C2 F2 N2 hop hoo hb2 ne1 ne2 ne3 hh2 hol ret2
    clear X T C FF NN
    k_steps
    refine ret2 _ _ _ _ (tk2 + 1 + 1) _ ?_ (by assumption) ?_
    · rename KBw.bInts (KBy.picked _ _ _) = _ => hcut
      exact hcut.trans (cut_eq ks pos many)
    · rw [show ((pos + many : Nat) : Int) = (pos : Int) + (many : Int) by omega]; assumption
  · intro h' tk' H d od ofl hF hH hBH hHB hHf hdl hdp hkp FF2 NN2
    have hpl' := hkp _ _ (by k_ne) (NN (_, listOf #[.int 0 _] 0) mem2).1
    have hP' := hkp _ _ (by k_ne) (NN (100, tabObj _) (by k_mem)).1
    clear FF NN
    k_steps
    refine ret _ H _ _ _ _ _ _ _ _ _ _ _ _ _ _ hF hH hBH hHB hHf ?_ hpl' ?_ (fun b o e => ?_)
    · refine List.forall_mem_cons.mpr ⟨⟨by omega, by k_ne⟩, List.forall_mem_cons.mpr ⟨⟨by rw [← hL]; exact Nat.le_of_lt hdl, hdp⟩, List.forall_mem_cons.mpr ⟨⟨by omega, by k_ne⟩, List.forall_mem_cons.mpr ⟨⟨by omega, by k_ne⟩, List.forall_mem_cons.mpr ⟨⟨by omega, by k_ne⟩, fun _ h => nomatch h⟩⟩⟩⟩⟩
    · omega
    · by_cases hb : b = 100
      · rw [hb, hP] at e; cases e; rw [hb]; exact hP'
      · exact Fr.keep (by assumption) b o (hk b o e (fun p hp q => by rw [List.mem_singleton.mp hp] at q; exact hb q.symm))
end
section
open PySem PySem.W PyProof.Rows PySem.Calls
theorem FnAt_of_fr {g h : Heap} {L q : Addr} {m : Str → Option Value} (x : FnAt q g) (F : Fr g L h m) : FnAt q h := let ⟨a, b, c, d, e⟩ := x; ⟨a, b, c, d, F.keep _ _ e⟩
theorem get_of_fr2 {g h : Heap} {L x : Addr} {m : Str → Option Value} {o : Obj} (F : Fr g L h m) (e : g.get? x = some o) : h.get? x = some o := F.keep _ _ e
/-- a reader's call in a frame -/
theorem reads_in {w : World} {A : Around} {s : Shared} {Q E : Value → Shared → Prop} {H g : Heap} {L rd pl : Addr} {m : Str → Option Value} {oct : List Int} {pos many e : Nat} {manyI : Int} {tp tm : Tok} {rest : List (Addr × Obj)}
    (hR : ReadsOk w H rd pl oct) (F : Fr g L s.heap m) (N : News g L s.heap ((pl, listOf #[.int (pos : Int) tp] e) :: rest)) (hHg : ∀ b o, H.get? b = some o → g.get? b = some o) (hne : ∀ p ∈ rest, p.1 ≠ pl) (hm : manyI = (many : Int)) (hd : A.depth < recursionLimit) (hh : A.handled = none) (hol : oct.length ≤ 100000)
    (h : ∀ bb t' h' tk tp', KBw.bInts bb = (oct.drop pos).take many → Fr g L h' m → News g L h' ((pl, listOf #[.int ((pos + many : Nat) : Int) tp'] e) :: rest) → Q (.bytes bb t') { s with heap := h', toks := tk }) :
    wpAny (model PR w) A (call (.ref rd) [.int manyI tm]) Q E s := by
  subst hm
  have n0 := N _ (List.mem_cons_self ..)
  refine hR A s Q E pos many e tp tm (fun b o x => F.keep _ _ (hHg _ _ x)) n0.1 hd hh hol ?_
  intro bb t' h' tk tp' hbb hpl hk
  refine h bb t' h' tk tp' hbb ?_ ?_
  · obtain ⟨oL, es, ep, hL, r⟩ := F.ns
    exact ⟨⟨oL, es, ep, hk _ _ (Ne.symm n0.2.1) hL, r⟩, fun b o x => hk b o (fun q => by rw [q, n0.2.2] at x; cases x) (F.keep b o x), F.above⟩
  · intro p hp
    rcases List.mem_cons.mp hp with rfl | hp
    · exact ⟨hpl, n0.2⟩
    · exact ⟨hk _ _ (hne p hp) (N p (List.mem_cons_of_mem _ hp)).1, (N p (List.mem_cons_of_mem _ hp)).2⟩


theorem uint_spec {w : World} {loose : List Str} {mean : ExcName → Option Value} {mg mb : Str → Option Value} {A : Around} {s : Shared} {Q E : Value → Shared → Prop} {H B : Heap} {v : Value} {pl : Addr} {oct : List Int} {pos e : Nat} {tp : Tok} {k : Int}
    (O : Ok w loose mean mg mb B) (hB : ∀ b o, B.get? b = some o → s.heap.get? b = some o) (hFA : FileAt w H v pl oct) (hH : ∀ b o, H.get? b = some o → s.heap.get? b = some o) (hBp : B.get? pl = none)
    (hpl : s.heap.get? pl = some (listOf #[.int (pos : Int) tp] e)) (hk0 : oct[pos]? = some k) (hol : oct.length ≤ 100000) (hdp : A.depth + 1 < recursionLimit) (hh : A.handled = none)
    (ret : ∀ t' h' tk tp', h'.get? pl = some (listOf #[.int ((pos + 1 : Nat) : Int) tp'] e) → (∀ b o, b ≠ pl → s.heap.get? b = some o → h'.get? b = some o) → Q (.int k t') { s with heap := h', toks := tk }) :
    wpAny (model PR w) A (call (.ref 81) [v]) Q E s := by
  w_top off
  k_with_none
  (k_with "getMethod ref" => (refine get_fn_read (get_of_fr2 (by k_asm) (by assumption)) (get_of_fr2 (by k_asm) (by assumption)) ?_; intro _))
  (k_with "callWith ref" => (refine callWith_F (FnAt_of_fr (by assumption) (by k_asm)) ?_))
  (k_with "And" => ((with_reducible show FnAt _ _ ∧ _); refine ⟨FnAt_of_fr (by assumption) (by k_asm), ?_⟩; try dsimp only [List.nil_append, List.cons_append]))
  (have kfill0 : (Mine.hd.heap_39 = Mine.hd.heap_39) ∧ PySem.Challenge.rw_mr0056_01 = PySem.Challenge.rw_mr0056_01 := by (k_fill; exact ⟨rfl, rfl⟩)); clear kfill0
  obtain ⟨X, T, C⟩ := O
  obtain ⟨fl, d, rd, fd, hsh, tn, rfl, hfl, hd, hRO, hplH, hfn⟩ := hFA
  refine wpAny_call ?_
  refine' enterKM (muts := [(pl, listOf #[.int (pos : Int) tp] e)]) (binds := [(Str.ofString "f", .ref fl)]) (X.keeps hB) (T.nolimit.keeps hB) ?hm ?k6 ?k7 ?k8 ?k9 ?kB ?_ ?c5 ?c2 ?c3 ?c4
  (case k6 => k_is)
  (case k7 => k_is)
  (case k8 => k_room)
  (case k9 => first | exact BindsTo.of_eq rfl | exact binds_K (Frag.In.keeps X hB) rfl (by k_is) rfl rfl rfl)
  (case c5 => decide)
  (case kB => exact locs rfl)
  (case c2 => exact rfl)
  (case c3 => exact rfl)
  (case c4 => exact rfl)
  (case hm => exact fun p hp => by rw [List.mem_singleton.mp hp]; exact hpl)
  intro g L' h₁ tk0 hk hmn hsz F N l1
  k_fold
  have up : ∀ b o, s.heap.get? b = some o → b ≠ pl → g.get? b = some o := fun b o e hb => hk b o e (fun p hp q => by rw [List.mem_singleton.mp hp] at q; exact hb q.symm)
  have hBg : ∀ b o, B.get? b = some o → g.get? b = some o := fun b o e => up b o (hB b o e) (fun q => by rw [q, hBp] at e; cases e)
  have hHg : ∀ b o, H.get? b = some o → g.get? b = some o := fun b o e => up b o (hH b o e) (fun q => by rw [q, hplH] at e; cases e)
  replace X := X.keeps hBg
  replace T := T.keeps hBg
  replace C := C.keeps hBg
  have hfl' := hHg _ _ hfl
  have hd' := hHg _ _ hd
  have hfn' : FnAt rd g := let ⟨a, b, c, d, e⟩ := hfn; ⟨a, b, c, d, hHg _ _ e⟩
  simp only [List.reverse_cons, List.reverse_nil, List.nil_append] at F
  have hcut : (oct.drop pos).take 1 = [k] := by
    have hlt : pos < oct.length := by
      by_cases q : pos < oct.length
      · exact q
      · rw [List.getElem?_eq_none (by omega)] at hk0; cases hk0
    rw [List.drop_eq_getElem_cons hlt]
    have : oct[pos] = k := by rw [List.getElem?_eq_getElem hlt] at hk0; exact Option.some.inj hk0
    simp [this]
  k_steps
  refine reads_in (many := 1) hRO F N hHg (fun _ h => nomatch h) rfl (by k_room) hh hol ?_
  intro bb t' h' tk tp' hbb F' N'
  rw [hcut] at hbb
  clear F N
  k_steps
  · refine ret _ _ _ _ (News.get (by assumption) (List.mem_cons_self ..)) (fun b o hb e => Fr.keep (by assumption) b o (up b o e hb))
  · rename ¬ (0 < List.length _) => hq
    exact absurd (Nat.zero_lt_succ _) hq

/-- a contract's call in a frame: all but pl stays -/
theorem fr_but {g h h' : Heap} {L pl : Addr} {m : Str → Option Value} {o : Obj} {rest : List (Addr × Obj)} (F : Fr g L h m) (N : News g L h ((pl, o) :: rest)) (hk : ∀ b o, b ≠ pl → h.get? b = some o → h'.get? b = some o) : Fr g L h' m := by
  have n0 := N _ (List.mem_cons_self ..)
  obtain ⟨oL, es, ep, hL, r⟩ := F.ns
  exact ⟨⟨oL, es, ep, hk _ _ (Ne.symm n0.2.1) hL, r⟩, fun b o x => hk b o (fun q => by rw [q, n0.2.2] at x; cases x) (F.keep b o x), F.above⟩
theorem news_but {g h h' : Heap} {L pl : Addr} {o o' : Obj} {rest : List (Addr × Obj)} (N : News g L h ((pl, o) :: rest)) (hk : ∀ b o, b ≠ pl → h.get? b = some o → h'.get? b = some o) (hp : h'.get? pl = some o') (hne : ∀ p ∈ rest, p.1 ≠ pl) : News g L h' ((pl, o') :: rest) := by
  have n0 := N _ (List.mem_cons_self ..)
  intro p hp'
  rcases List.mem_cons.mp hp' with rfl | hp'
  · exact ⟨hp, n0.2⟩
  · exact ⟨hk _ _ (hne p hp') (N p (List.mem_cons_of_mem _ hp')).1, (N p (List.mem_cons_of_mem _ hp')).2⟩

theorem bytes1_spec {w : World} {loose : List Str} {mean : ExcName → Option Value} {mg mb : Str → Option Value} {A : Around} {s : Shared} {Q E : Value → Shared → Prop} {H B : Heap} {v : Value} {pl : Addr} {oct : List Int} {pos e n : Nat} {tp : Tok}
    (O : Ok w loose mean mg mb B) (hB : ∀ b o, B.get? b = some o → s.heap.get? b = some o) (hFA : FileAt w H v pl oct) (hH : ∀ b o, H.get? b = some o → s.heap.get? b = some o) (hBp : B.get? pl = none)
    (hpl : s.heap.get? pl = some (listOf #[.int (pos : Int) tp] e)) (hk0 : oct[pos]? = some (n : Int)) (hlen : pos + 1 + n ≤ oct.length) (hol : oct.length ≤ 100000) (hdp : A.depth + 2 < recursionLimit) (hh : A.handled = none)
    (ret : ∀ bb t' h' tk tp', KBw.bInts bb = (oct.drop (pos + 1)).take n → h'.get? pl = some (listOf #[.int ((pos + 1 + n : Nat) : Int) tp'] e) → (∀ b o, b ≠ pl → s.heap.get? b = some o → h'.get? b = some o) → Q (.bytes bb t') { s with heap := h', toks := tk }) :
    wpAny (model PR w) A (call (.ref 88) [v]) Q E s := by
  w_top off
  k_with_none
  (k_with "getMethod ref" => (refine get_fn_read (get_of_fr2 (by k_asm) (by assumption)) (get_of_fr2 (by k_asm) (by assumption)) ?_; intro _))
  (k_with "callWith ref" => (refine callWith_F (FnAt_of_fr (by assumption) (by k_asm)) ?_))
  (k_with "And" => ((with_reducible show FnAt _ _ ∧ _); refine ⟨FnAt_of_fr (by assumption) (by k_asm), ?_⟩; try dsimp only [List.nil_append, List.cons_append]))
  (have kfill0 : (Mine.hd.heap_39 = Mine.hd.heap_39) ∧ PySem.Challenge.rw_mr0056_01 = PySem.Challenge.rw_mr0056_01 := by (k_fill; exact ⟨rfl, rfl⟩)); clear kfill0
  obtain ⟨X, T, C⟩ := O
  have hFA0 := hFA
  obtain ⟨fl, d, rd, fd, hsh, tn, rfl, hfl, hd, hRO, hplH, hfn⟩ := hFA
  refine wpAny_call ?_
  refine' enterKM (muts := [(pl, listOf #[.int (pos : Int) tp] e)]) (binds := [(Str.ofString "f", .ref fl)]) (X.keeps hB) (T.nolimit.keeps hB) ?hm ?k6 ?k7 ?k8 ?k9 ?kB ?_ ?c5 ?c2 ?c3 ?c4
  (case k6 => k_is)
  (case k7 => k_is)
  (case k8 => k_room)
  (case k9 => first | exact BindsTo.of_eq rfl | exact binds_K (Frag.In.keeps X hB) rfl (by k_is) rfl rfl rfl)
  (case c5 => decide)
  (case kB => exact locs rfl)
  (case c2 => exact rfl)
  (case c3 => exact rfl)
  (case c4 => exact rfl)
  (case hm => exact fun p hp => by rw [List.mem_singleton.mp hp]; exact hpl)
  intro g L' h₁ tk0 hk hmn hsz F N l1
  k_fold
  have up : ∀ b o, s.heap.get? b = some o → b ≠ pl → g.get? b = some o := fun b o e hb => hk b o e (fun p hp q => by rw [List.mem_singleton.mp hp] at q; exact hb q.symm)
  have hBg : ∀ b o, B.get? b = some o → g.get? b = some o := fun b o e => up b o (hB b o e) (fun q => by rw [q, hBp] at e; cases e)
  have hHg : ∀ b o, H.get? b = some o → g.get? b = some o := fun b o e => up b o (hH b o e) (fun q => by rw [q, hplH] at e; cases e)
  replace X := X.keeps hBg
  replace T := T.keeps hBg
  replace C := C.keeps hBg
  have hfl' := hHg _ _ hfl
  have hd' := hHg _ _ hd
  have hfn' : FnAt rd g := let ⟨a, b, c, d, e⟩ := hfn; ⟨a, b, c, d, hHg _ _ e⟩
  simp only [List.reverse_cons, List.reverse_nil, List.nil_append] at F
  have hclen : ((oct.drop (pos + 1)).take n).length = n := by rw [List.length_take, List.length_drop]; omega
  have hgp : g.get? pl = none := hmn (pl, _) (List.mem_singleton.mpr rfl)
  k_steps
  refine uint_spec (B := g) ⟨X, T, C⟩ F.keep hFA0 (fun b o e => F.keep _ _ (hHg b o e)) hgp (N _ (List.mem_cons_self ..)).1 hk0 hol (by k_room) hh ?_
  intro t1 h1 tk1 tp1 hpl1 hk1
  replace F := fr_but F N hk1
  replace N := news_but N hk1 hpl1 (fun _ h => nomatch h)
  k_steps
  refine reads_in (many := n) (rest := []) hRO (by assumption) (by assumption) hHg (by intro p hp; cases hp) rfl (by k_room) hh hol ?_
  intro bb t' h' tk tp' hbb F' N'
  have hbl : (KBw.bInts bb).length = n := by rw [hbb]; exact hclen
  k_steps
  · refine ret _ _ _ _ _ hbb (News.get (by assumption) (List.mem_cons_self ..)) (fun b o hb e => Fr.keep (by assumption) b o (up b o e hb))
  · exfalso
    rename ¬ (_ = _) => hq
    rename ¬ (_ = _) => hq2
    omega
end
section
open PySem PySem.W PyProof.Rows
/-- as TreeAt, the lists being among os -/
def TreeL (os : List (Addr × Obj)) : Nat → Value → Tree → Prop
  | 0, v, .leaf b => ∃ a t, v = .bytes a t ∧ KBw.bInts a = b
  | _ + 1, v, .leaf b => ∃ a t, v = .bytes a t ∧ KBw.bInts a = b
  | 0, _, .box _ _ => False
  | n + 1, v, .box k ts => ∃ x vs t e, v = .ref x ∧ (x, listOf (.int (k : Int) t :: vs).toArray e) ∈ os ∧ PySem.Paired (TreeL os n) vs ts
theorem TreeL.leaf_iff {os : List (Addr × Obj)} {n : Nat} {v : Value} {b : List Int} : TreeL os n v (.leaf b) ↔ ∃ a t, v = .bytes a t ∧ KBw.bInts a = b := by cases n <;> exact Iff.rfl
theorem TreeL.mono {os os' : List (Addr × Obj)} (h : ∀ p ∈ os, p ∈ os') : ∀ n v t, TreeL os n v t → TreeL os' n v t
  | 0, _, .leaf _, x => x
  | _ + 1, _, .leaf _, x => x
  | 0, _, .box _ _, x => x
  | n + 1, v, .box k ts, ⟨x, vs, t, e, hv, ho, hs⟩ => ⟨x, vs, t, e, hv, h _ ho, Paired.imp (fun a b => TreeL.mono h n a b) hs⟩
theorem TreeL.at {os : List (Addr × Obj)} {q : Addr → Prop} {h : Heap} (hk : ∀ p ∈ os, h.get? p.1 = some p.2 ∧ q p.1) : ∀ n v t, TreeL os n v t → TreeAt q h n v t
  | 0, _, .leaf _, x => x
  | _ + 1, _, .leaf _, x => x
  | 0, _, .box _ _, x => x
  | n + 1, v, .box k ts, ⟨x, vs, t, e, hv, ho, hs⟩ => ⟨x, vs, t, e, hv, (hk _ ho).2, (hk _ ho).1, Paired.imp (fun a b => TreeL.at hk n a b) hs⟩
theorem drop_cons {oct l : List Int} {a : Int} {pos : Nat} (h : oct.drop pos = a :: l) : oct[pos]? = some a ∧ oct.drop (pos + 1) = l ∧ pos + 1 + l.length = oct.length := by
  have h1 : (oct.drop pos)[0]? = some a := by rw [h]; rfl
  rw [List.getElem?_drop, Nat.add_zero] at h1
  have h2 : (oct.drop pos).drop 1 = l := by rw [h]; rfl
  rw [List.drop_drop] at h2
  have h3 := congrArg List.length h
  rw [List.length_drop, List.length_cons] at h3
  exact ⟨h1, h2, by omega⟩
theorem drop_app {oct l r : List Int} {pos : Nat} (h : oct.drop pos = l ++ r) : oct.drop (pos + l.length) = r := by
  have h2 : (oct.drop pos).drop l.length = r := by rw [h]; simp
  rwa [List.drop_drop] at h2
end
section
open PySem PySem.W PyProof.Rows PySem.Calls
theorem News.drop1 {g h : Heap} {L : Addr} {p : Addr × Obj} {l : List (Addr × Obj)} (N : News g L h (p :: l)) : News g L h l := fun q hq => N q (List.mem_cons_of_mem _ hq)
theorem opened_leaf {w : World} {loose : List Str} {mean : ExcName → Option Value} {mg mb : Str → Option Value} {A : Around} {s : Shared} {Q E : Value → Shared → Prop} {B : Heap} {v : Value} {pl : Addr} {oct bs rest : List Int} {pos e : Nat} {tp : Tok}
    (O : Ok w loose mean mg mb B) (hB : ∀ b o, B.get? b = some o → s.heap.get? b = some o) (hFA : FileAt w B v pl oct)
    (hpl : s.heap.get? pl = some (listOf #[.int (pos : Int) tp] e)) (hoct : oct.drop pos = 0 :: (bs.length : Int) :: (bs ++ rest)) (hol : oct.length ≤ 100000) (hdp : A.depth + 3 < recursionLimit) (hh : A.handled = none)
    (ret : ∀ bb t' h' tk tp', KBw.bInts bb = bs → h'.get? pl = some (listOf #[.int ((pos + (2 + bs.length) : Nat) : Int) tp'] e) → (∀ b o, b ≠ pl → s.heap.get? b = some o → h'.get? b = some o) → Q (.bytes bb t') { s with heap := h', toks := tk }) :
    wpAny (model PR w) A (call (.ref 115) [v]) Q E s := by
  w_top off
  k_with_none
  (have kfill0 : (Mine.hd.heap_39 = Mine.hd.heap_39) ∧ PySem.Challenge.rw_mr0056_01 = PySem.Challenge.rw_mr0056_01 := by (k_fill; exact ⟨rfl, rfl⟩)); clear kfill0
  obtain ⟨X, T, C⟩ := O
  have hFA0 := hFA
  obtain ⟨fl, d, rd, fd, hsh, tn, rfl, hfl, hdd, hRO, hplH, hfn⟩ := hFA
  obtain ⟨ho1, ho2, ho3⟩ := drop_cons hoct
  obtain ⟨ho4, ho5, ho6⟩ := drop_cons ho2
  rw [List.length_append] at ho6
  refine wpAny_call ?_
  refine' enterKC (muts := [(pl, listOf #[.int (pos : Int) tp] e)]) (binds := [(Str.ofString "file", .ref fl)]) (p := topProg) (X.keeps hB) (T.nolimit.keeps hB) (fun p hp => by rw [List.mem_singleton.mp hp]; exact hpl) ?k6 ?k7 ?k8 ?k9 ?kB ?kD ?_ ?c2 ?c3 ?c4
  (case k6 => k_is)
  (case k7 => k_is)
  (case k8 => k_room)
  (case k9 => exact BindsTo.of_eq rfl)
  (case kB => exact rfl)
  (case kD => decide +kernel)
  (case c2 => exact rfl)
  (case c3 => exact rfl)
  (case c4 => exact rfl)
  intro g L' h₁ tk cells hk hk2 hmn hsz hL F N Y l1
  k_fold
  have up : ∀ b o, s.heap.get? b = some o → b ≠ pl → g.get? b = some o := fun b o e hb => hk b o e (fun p hp q => by rw [List.mem_singleton.mp hp] at q; exact hb q.symm)
  have hBg : ∀ b o, B.get? b = some o → g.get? b = some o := fun b o e => up b o (hB b o e) (fun q => by rw [q, hplH] at e; cases e)
  have hgp : g.get? pl = none := hmn (pl, _) (List.mem_singleton.mpr rfl)
  replace X := X.keeps hBg
  replace T := T.keeps hBg
  replace C := C.keeps hBg
  k_lt l1
  k_cells Y
  simp only [List.cons_append, List.nil_append] at N
  replace N := News.drop1 N
  k_steps
  rename Fr _ _ _ _ => F
  rename News _ _ _ _ => N
  refine uint_spec (B := g) ⟨X, T, C⟩ F.keep hFA0 (fun b o e => F.keep _ _ (hBg b o e)) hgp (N _ (List.mem_cons_self ..)).1 ho1 hol (by k_room) hh ?_
  intro t1 h1 tk1 tp1 hpl1 hk1
  replace F := fr_but F N hk1
  replace N := news_but N hk1 hpl1 (fun _ h => nomatch h)
  k_steps
  rename Fr _ _ _ _ => F
  rename News _ _ _ _ => N
  refine bytes1_spec (B := g) ⟨X, T, C⟩ F.keep hFA0 (fun b o e => F.keep _ _ (hBg b o e)) hgp (N _ (List.mem_cons_self ..)).1 ho4 (by omega) hol (by k_room) hh ?_
  intro bb t' h' tk' tp' hbb hpl2 hk2'
  replace F := fr_but F N hk2'
  refine ret bb t' h' tk' tp' ?_ ?_ (fun b o hb e => F.keep _ _ (up b o e hb))
  · rw [hbb, ho5]; simp
  · rw [hpl2, show pos + 1 + 1 + bs.length = pos + (2 + bs.length) by omega]
end
section
open PySem PySem.W PyProof.Rows
theorem sgnk_in (k : Nat) (i : Int) : 0 ≤ sgn (ALk k) i ∧ sgn (ALk k) i < 256 := by
  have h : ∀ c ∈ ALk k, 0 ≤ c ∧ c < 256 := by
    unfold ALk
    split
    · decide
    · split
      · decide
      · decide
  exact KBw.getD_in (ks := ALk k) (j := i.toNat) h
theorem signs_in {k : Nat} {inner signs : List Int} (h : Signs k inner signs) : ∀ c ∈ signs, 0 ≤ c ∧ c < 256 := by
  obtain ⟨S, p, r, rfl, _⟩ := h.1.is
  intro c hc
  rcases List.mem_append.mp hc with hc | hc
  · obtain ⟨i, _, rfl⟩ := List.mem_map.mp hc; exact sgnk_in k i
  · rw [(List.mem_replicate.mp hc).2]; decide
theorem Paired.flat_in {n : Nat} (h : ∀ t ks, Writes n t ks → Fits n t → ∀ c ∈ ks, 0 ≤ c ∧ c < 256) : ∀ {ts : List Tree} {ps : List (List Int)}, PySem.Paired (Writes n) ts ps → (∀ t ∈ ts, Fits n t) → ∀ c ∈ ps.flatten, 0 ≤ c ∧ c < 256
  | _, _, .nil, _, c, hc => by simp at hc
  | _, _, .cons hf t, hs, c, hc => by
    rw [List.flatten_cons] at hc
    rcases List.mem_append.mp hc with hc | hc
    · exact h _ _ hf (hs _ (List.mem_cons_self ..)) c hc
    · exact Paired.flat_in h t (fun t ht => hs t (List.mem_cons_of_mem _ ht)) c hc
theorem box_len {n k : Nat} {ts : List Tree} {parts : List (List Int)} {signs : List Int} (hp : PySem.Paired (Writes n) ts parts) (hs : Signs k parts.flatten signs) (hf : slen k ((ts.map (wlen n)).sum) < 256) : signs.length < 256 := by
  rw [hs.2, Paired.lens (fun t ks => Writes.length n t ks) hp]; exact hf
theorem writes_in : ∀ n t ks, Writes n t ks → Fits n t → ∀ c ∈ ks, 0 ≤ c ∧ c < 256
  | 0, .leaf b, ks, hw, hf, c, hc => by
    have hw : ks = _ := hw
    have hf : b.length < 256 ∧ ∀ c ∈ b, 0 ≤ c ∧ c < 256 := hf
    rw [hw] at hc
    simp only [List.mem_cons] at hc
    rcases hc with rfl | rfl | hc
    · decide
    · omega
    · exact hf.2 c hc
  | _ + 1, .leaf b, ks, hw, hf, c, hc => by
    have hw : ks = _ := hw
    have hf : b.length < 256 ∧ ∀ c ∈ b, 0 ≤ c ∧ c < 256 := hf
    rw [hw] at hc
    simp only [List.mem_cons] at hc
    rcases hc with rfl | rfl | hc
    · decide
    · omega
    · exact hf.2 c hc
  | 0, .box _ _, _, hw, _, _, _ => hw.elim
  | n + 1, .box k ts, ks, hw, hf, c, hc => by
    obtain ⟨parts, signs, hp, hs, rfl⟩ := hw
    obtain ⟨h1, h2, h3, h4⟩ := (show k < 3 ∧ ts.length < 256 ∧ slen k ((ts.map (wlen n)).sum) < 256 ∧ ∀ t ∈ ts, Fits n t from hf)
    have hl := box_len hp hs h3
    simp only [List.mem_cons] at hc
    rcases hc with rfl | rfl | rfl | hc
    · omega
    · omega
    · omega
    · exact signs_in hs c hc
theorem Paired.take {α β : Type} {F : α → β → Prop} : ∀ (i : Nat) {l₁ : List α} {l₂ : List β}, PySem.Paired F l₁ l₂ → PySem.Paired F (l₁.take i) (l₂.take i)
  | 0, _, _, _ => by simpa using PySem.Paired.nil
  | _ + 1, _, _, .nil => by simpa using PySem.Paired.nil
  | i + 1, _, _, .cons h t => by simpa using PySem.Paired.cons h (Paired.take i t)
/-- the octets of the parts behind the first i -/
theorem flat_drop {parts : List (List Int)} {i : Nat} {p : List Int} (h : parts[i]? = some p) : parts.flatten.drop ((parts.take i).flatten.length) = p ++ (parts.drop (i + 1)).flatten := by
  have hlt : i < parts.length := by
    by_cases q : i < parts.length
    · exact q
    · rw [List.getElem?_eq_none (by omega)] at h; cases h
  have e : parts = parts.take i ++ p :: parts.drop (i + 1) := by
    have h2 : parts[i] = p := by rw [List.getElem?_eq_getElem hlt] at h; exact Option.some.inj h
    conv => lhs; rw [← List.take_append_drop i parts, List.drop_eq_getElem_cons hlt, h2]
  have h3 : parts.flatten = (parts.take i).flatten ++ (p ++ (parts.drop (i + 1)).flatten) := by
    conv => lhs; rw [e]
    rw [List.flatten_append, List.flatten_cons]
  rw [h3]; simp
theorem flat_next {parts : List (List Int)} {i : Nat} {p : List Int} (h : parts[i]? = some p) : (parts.take (i + 1)).flatten.length = (parts.take i).flatten.length + p.length := by
  rw [List.take_add_one, h]; simp
end
section
open PySem PySem.W PyProof.Rows PySem.Calls

/-- the contract of _law_opened at depth n -/
def Opens (w : World) (loose : List Str) (mean : ExcName → Option Value) (mg mb : Str → Option Value) (n : Nat) : Prop :=
  ∀ (A : Around) (s : Shared) (Q E : Value → Shared → Prop) (v : Value) (t : Tree) (ks rest oct : List Int) (B : Heap) (pl : Addr) (pos e : Nat) (tp : Tok) (ps : Array Value),
    Ok w loose mean mg mb B → (∀ b o, B.get? b = some o → s.heap.get? b = some o) → FileAt w B v pl oct → B.get? 100 = none → s.heap.get? 100 = some (tabObj ps) → TabOk B ps → s.heap.get? pl = some (listOf #[.int (pos : Int) tp] e) → pl ≠ 100 →
    oct.drop pos = ks ++ rest → Writes n t ks → Fits n t → oct.length ≤ 100000 → A.depth + n + 3 < recursionLimit → A.handled = none →
    (∀ v' os h' tk tp', TreeL os n v' t → (∀ p ∈ os, h'.get? p.1 = some p.2 ∧ s.heap.objs.size ≤ p.1) → h'.get? pl = some (listOf #[.int ((pos + ks.length : Nat) : Int) tp'] e) → (∀ b o, b ≠ pl → s.heap.get? b = some o → h'.get? b = some o) → Q v' { s with heap := h', toks := tk }) →
    wpAny (model PR w) A (call (.ref 115) [v]) Q E s

theorem filled_spec' {w : World} {loose : List Str} {mean : ExcName → Option Value} {mg mb : Str → Option Value} {A : Around} {s : Shared} {Q E : Value → Shared → Prop} {k : Nat} {kI : Int} {tk : Tok} {b : Array UInt8} {t : Tok} {sg ks : List Int}
    (O : Ok w loose mean mg mb s.heap) (hdp : A.depth < recursionLimit) (hh : A.handled = none) (hkI : kI = (k : Int)) (hk3 : k < 3) (hb : KBw.bInts b = sg) (hl : sg.length < 256) (hen : Enc (ALk k) (wid k) ks sg) (hks : ∀ c ∈ ks, 0 ≤ c ∧ c < 256)
    (ret : ∀ bb t' h' tk, KBw.bInts bb = ks → (∀ b o, s.heap.get? b = some o → h'.get? b = some o) → Q (.bytes bb t') { s with heap := h', toks := tk }) :
    wpAny (model PR w) A (call (.ref 110) [.int kI tk, .bytes b t]) Q E s := by
  subst hkI; exact filled_spec O hdp hh hk3 hb hl hen hks ret
theorem News.but {g h h' : Heap} {L pl : Addr} {o' : Obj} {l : List (Addr × Obj)} (N : News g L h l) (hk : ∀ b o, b ≠ pl → h.get? b = some o → h'.get? b = some o) (hp : ∀ p ∈ l, p.1 ≠ pl) (hpl : h'.get? pl = some o') (hLp : pl ≠ L) (hgp : g.get? pl = none) : News g L h' ((pl, o') :: l) := by
  intro p hq
  rcases List.mem_cons.mp hq with rfl | hq
  · exact ⟨hpl, hLp, hgp⟩
  · exact ⟨hk _ _ (hp p hq) (N p hq).1, (N p hq).2⟩
theorem News.swap1 {g h : Heap} {L : Addr} {p q : Addr × Obj} {l : List (Addr × Obj)} (N : News g L h (p :: q :: l)) : News g L h (q :: p :: l) := fun r hr => by
  rcases List.mem_cons.mp hr with rfl | hr
  · exact N _ mem1
  · rcases List.mem_cons.mp hr with rfl | hr
    · exact N _ mem0
    · exact N _ (List.mem_cons_of_mem _ (List.mem_cons_of_mem _ hr))
theorem fresh_in {g h : Heap} {L a : Addr} {m : Str → Option Value} (F : Fr g L h m) (ha : h.objs.size ≤ a) : g.get? a = none ∧ a ≠ L := by
  constructor
  · cases q : g.get? a with
    | none => rfl
    | some o => exact absurd (Heap.lt_size (F.keep _ _ q)) (Nat.not_lt.mpr ha)
  · intro q; rw [q] at ha; exact absurd F.ns.lt (Nat.not_lt.mpr ha)
theorem News.more {g h : Heap} {L a : Addr} {o : Obj} {l : List (Addr × Obj)} (N : News g L h l) (e : h.get? a = some o) (hL : a ≠ L) (hg : g.get? a = none) : News g L h ((a, o) :: l) := fun p hp => by
  rcases List.mem_cons.mp hp with rfl | hp
  · exact ⟨e, hL, hg⟩
  · exact N p hp
theorem mem7 {α : Type} {a b c d e f g h : α} {l : List α} : a ∈ b :: c :: d :: e :: f :: g :: h :: a :: l := List.mem_cons_of_mem _ mem6
theorem mem8 {α : Type} {a b c d e f g h i : α} {l : List α} : a ∈ b :: c :: d :: e :: f :: g :: h :: i :: a :: l := List.mem_cons_of_mem _ mem7
theorem mem9 {α : Type} {a b c d e f g h i j : α} {l : List α} : a ∈ b :: c :: d :: e :: f :: g :: h :: i :: j :: a :: l := List.mem_cons_of_mem _ mem8
theorem re_news {g h : Heap} {L l f1 f2 f3 f4 f5 pl2 pl c a : Addr} {ol o1 o2 o3 o4 o5 op2 op oc ot : Obj} {x : Data} {P : Prop} (N : News g L h [(l, ol), (f1, o1), (f2, o2), (f3, o3), (f4, o4), (f5, o5), (pl2, op2), (pl, op), (c, oc), (a, ot)]) (dc : oc.data = x)
    (hp : ∀ l' FX oc', l' = l → oc'.data = x → FX = [(l', ol), (f1, o1), (f2, o2), (f3, o3), (f4, o4), (f5, o5), (pl, op), (c, oc'), (a, ot)] → News g L h ((pl2, op2) :: FX) → P) : P := by
  refine hp l _ oc rfl dc rfl ?_
  intro p hp
  simp only [List.mem_cons, List.not_mem_nil, or_false] at hp
  rcases hp with rfl | rfl | rfl | rfl | rfl | rfl | rfl | rfl | rfl | rfl
  · exact N _ mem6
  · exact N _ mem0
  · exact N _ mem1
  · exact N _ mem2
  · exact N _ mem3
  · exact N _ mem4
  · exact N _ mem5
  · exact N _ mem7
  · exact N _ mem8
  · exact N _ mem9
theorem fr_one {g h h' : Heap} {L pl : Addr} {m : Str → Option Value} (F : Fr g L h m) (hk : ∀ b o, b ≠ pl → h.get? b = some o → h'.get? b = some o) (hL : pl ≠ L) (hg : g.get? pl = none) : Fr g L h' m := by
  obtain ⟨oL, es, ep, hL', r⟩ := F.ns
  exact ⟨⟨oL, es, ep, hk _ _ (Ne.symm hL) hL', r⟩, fun b o x => hk b o (fun q => by rw [q, hg] at x; cases x) (F.keep b o x), F.above⟩
theorem add_cons {w : World} {A : Around} {s : Shared} {E Q : Value → Shared → Prop} {g : Heap} {L l D : Addr} {m : Str → Option Value} {news : List (Addr × Obj)} {a a' : Int} {t : Tok} {e0 : Nat} {ys : List Value} (F : Fr g L s.heap m) (N : News g L s.heap news) (h1 : (l, listOf #[.int a t] e0) ∈ news) (h2 : (D, LCg.lst ys) ∈ news) (ha : a = a')
    (h : ∀ t' D' h', Fr g L h' m → News g L h' ((D', listOf (.int a' t' :: ys).toArray 0) :: news) → (∀ p ∈ news, p.1 < D') → Q (.ref D') { s with heap := h' }) (hz : ys.length ≤ 100000) : wpAny (model PR w) A (binaryOp .Add (.ref l) (.ref D)) Q E s := by
  subst ha
  exact kmk_add_lit (its := #[.int a t]) (its2 := ys.toArray) (zs := .int a t :: ys) F N (News.isList N h1) (News.isList N h2) rfl (h t) (by simp only [List.length_cons, List.length_nil, sizeLine_eq]; omega)
theorem opened_box {w : World} {loose : List Str} {mean : ExcName → Option Value} {mg mb : Str → Option Value} {A : Around} {s : Shared} {Q E : Value → Shared → Prop} {B : Heap} {v : Value} {pl : Addr} {oct signs rest : List Int} {pos e n k : Nat} {tp : Tok} {ts : List Tree} {parts : List (List Int)} {ps : Array Value}
    (O : Ok w loose mean mg mb B) (hB : ∀ b o, B.get? b = some o → s.heap.get? b = some o) (hFA : FileAt w B v pl oct) (h100 : B.get? 100 = none) (hP : s.heap.get? 100 = some (tabObj ps)) (hT : TabOk B ps)
    (hpl : s.heap.get? pl = some (listOf #[.int (pos : Int) tp] e)) (hp100 : pl ≠ 100) (hoct : oct.drop pos = ((k : Int) + 1) :: (ts.length : Int) :: (signs.length : Int) :: (signs ++ rest)) (hol : oct.length ≤ 100000) (hdp : A.depth + n + 4 < recursionLimit) (hh : A.handled = none)
    (hk3 : k < 3) (hts : ts.length < 256) (hsg : signs.length < 256) (hw : PySem.Paired (Writes n) ts parts) (hs : Signs k parts.flatten signs) (hf : ∀ t ∈ ts, Fits n t) (hin : ∀ c ∈ parts.flatten, 0 ≤ c ∧ c < 256)
    (IH : Opens w loose mean mg mb n)
    (ret : ∀ v' os h' tk tp', TreeL os (n + 1) v' (.box k ts) → (∀ p ∈ os, h'.get? p.1 = some p.2 ∧ s.heap.objs.size ≤ p.1) → h'.get? pl = some (listOf #[.int ((pos + (3 + signs.length) : Nat) : Int) tp'] e) → (∀ b o, b ≠ pl → s.heap.get? b = some o → h'.get? b = some o) → Q v' { s with heap := h', toks := tk }) :
    wpAny (model PR w) A (call (.ref 115) [v]) Q E s := by
  w_top off
  k_with_none
  (k_with "eval ListComp" => (k_dflt (refine LCg.ListComp_U (F₀ := by k_asm) (by with_unfolding_all rfl) (by decide) (by rfl) (by decide) (by rfl) ?_)))
  (have kfill0 : (Mine.hd.heap_39 = Mine.hd.heap_39) ∧ PySem.Challenge.rw_mr0056_01 = PySem.Challenge.rw_mr0056_01 := by (k_fill; exact ⟨rfl, rfl⟩)); clear kfill0
  obtain ⟨X, T, C⟩ := O
  have hFA0 := hFA
  obtain ⟨fl, d, rd, fd, hsh, tn, rfl, hfl, hdd, hRO, hplH, hfn⟩ := hFA
  obtain ⟨ho1, ho2, ho3⟩ := drop_cons hoct
  obtain ⟨ho4, ho5, ho6⟩ := drop_cons ho2
  obtain ⟨ho7, ho8, ho9⟩ := drop_cons ho5
  rw [List.length_append] at ho9
  refine wpAny_call ?_
  refine' enterKC (muts := [(pl, listOf #[.int (pos : Int) tp] e), (100, tabObj ps)]) (binds := [(Str.ofString "file", .ref fl)]) (p := topProg) (X.keeps hB) (T.nolimit.keeps hB) (List.forall_mem_cons.mpr ⟨hpl, List.forall_mem_cons.mpr ⟨hP, fun _ h => nomatch h⟩⟩) ?k6 ?k7 ?k8 ?k9 ?kB ?kD ?_ ?c2 ?c3 ?c4
  (case k6 => k_is)
  (case k7 => k_is)
  (case k8 => k_room)
  (case k9 => exact BindsTo.of_eq rfl)
  (case kB => exact rfl)
  (case kD => decide +kernel)
  (case c2 => exact rfl)
  (case c3 => exact rfl)
  (case c4 => exact rfl)
  intro g L' h₁ tk cells hk hk2 hmn hsz hL F N Y l1
  k_fold
  have up : ∀ b o, s.heap.get? b = some o → b ≠ pl → b ≠ 100 → g.get? b = some o := fun b o e hb hb2 => hk b o e (List.forall_mem_cons.mpr ⟨fun q => hb q.symm, List.forall_mem_cons.mpr ⟨fun q => hb2 q.symm, fun _ h => nomatch h⟩⟩)
  have hBg : ∀ b o, B.get? b = some o → g.get? b = some o := fun b o e => up b o (hB b o e) (fun q => by rw [q, hplH] at e; cases e) (fun q => by rw [q, h100] at e; cases e)
  have hgp : g.get? pl = none := hmn (pl, _) mem0
  have hg100 : g.get? 100 = none := hmn (100, _) mem1
  replace X := X.keeps hBg
  replace T := T.keeps hBg
  replace C := C.keeps hBg
  have hpL : pl < L' := l1 (pl, _) mem0
  have h100L : 100 < L' := l1 (100, _) mem1
  k_lt l1
  k_cells Y
  simp only [List.cons_append, List.nil_append] at N
  replace N := News.swap1 N
  have hne1 : ∀ {o1 o2 : Obj}, ∀ p ∈ [(L' + 1, o1), (100, o2)], p.1 ≠ pl := List.forall_mem_cons.mpr ⟨fun q => by simp only at q; omega, List.forall_mem_cons.mpr ⟨fun q => hp100 q.symm, fun _ h => nomatch h⟩⟩
  k_steps
  rename Fr _ _ _ _ => F
  rename News _ _ _ _ => N
  refine uint_spec (B := g) ⟨X, T, C⟩ F.keep hFA0 (fun b o e => F.keep _ _ (hBg b o e)) hgp (N _ (List.mem_cons_self ..)).1 ho1 hol (by k_room) hh ?_
  intro t1 h1 tk1 tp1 hpl1 hk1
  replace F := fr_but F N hk1
  replace N := news_but N hk1 hpl1 hne1
  k_steps
  · exfalso; omega
  rename Fr _ _ _ _ => F
  rename News _ _ _ _ => N
  refine uint_spec (B := g) ⟨X, T, C⟩ F.keep hFA0 (fun b o e => F.keep _ _ (hBg b o e)) hgp (N _ (List.mem_cons_self ..)).1 ho4 hol (by k_room) hh ?_
  intro t2 h2 tk2 tp2 hpl2 hk2'
  replace F := fr_but F N hk2'
  replace N := news_but N hk2' hpl2 hne1
  k_steps
  rename Fr _ _ _ _ => F
  rename News _ _ _ _ => N
  refine bytes1_spec (B := g) ⟨X, T, C⟩ F.keep hFA0 (fun b o e => F.keep _ _ (hBg b o e)) hgp (N _ (List.mem_cons_self ..)).1 ho7 (by omega) hol (by k_room) hh ?_
  intro bb t3 h3 tk3 tp3 hbb hpl3 hk3'
  replace F := fr_but F N hk3'
  replace N := news_but N hk3' hpl3 hne1
  rw [ho8, List.take_left] at hbb
  k_steps
  rename Fr _ _ _ _ => F
  rename News _ _ _ _ => N
  refine filled_spec' (k := k) (Ok.keeps ⟨X, T, C⟩ F.keep) (by k_room) hh (by omega) hk3 hbb hsg hs.1 hin ?_
  intro bb4 t4 h4 tk4 hbb4 hk4
  replace F := Fr.keeps F hk4
  replace N := News.grown N hk4
  k_steps
  rename Fr _ _ _ _ => F
  rename News _ _ _ _ => N
  have hPn := (N (100, tabObj ps) mem2).1
  refine file_hit (B := g) ⟨X, T, C⟩ F.keep hg100 hPn (hT.keeps hBg) (by k_room) hh hbb4 ?_
  intro v2 H2 pl2 t5 h5 tk5 f1 f2 f3 f4 f5 o1 o2 o3 o4 o5 hF2 hH2h hgH2 hH2g hH2f hfs hpl5 hsz5 hk5
  have hLs : L' + 1 < h4.objs.size := Heap.lt_size (N (L' + 1, _) mem1).1
  have hfr : ∀ a, h4.objs.size ≤ a → g.get? a = none ∧ a ≠ L' := fun a ha => fresh_in F ha
  have hH2p : H2.get? pl2 = none := let ⟨_, _, _, _, _, _, _, _, _, _, x, _⟩ := hF2; x
  have hgt : ∀ p ∈ [(f1, o1), (f2, o2), (f3, o3), (f4, o4), (f5, o5)], @LT.lt Nat _ (L' + 1) p.1 := fun p hp => Nat.lt_of_lt_of_le hLs (hfs p hp).1
  have hgtp : @LT.lt Nat _ (L' + 1) pl2 := Nat.lt_of_lt_of_le hLs hsz5
  have hH2100 : H2.get? 100 = none := by
    cases q : H2.get? 100 with
    | none => rfl
    | some o =>
      rcases hH2g _ _ q with q1 | q1
      · rw [hg100] at q1; cases q1
      · have := hgt _ q1; simp only at this; omega
  replace F := Fr.keeps F hk5
  replace N := News.grown N hk5
  replace N := News.more N hpl5 (hfr _ hsz5).2 (hfr _ hsz5).1
  have hNf : ∀ p ∈ [(f1, o1), (f2, o2), (f3, o3), (f4, o4), (f5, o5)], h5.get? p.1 = some p.2 ∧ p.1 ≠ L' ∧ g.get? p.1 = none := fun p hp => ⟨hH2h _ _ (hH2f p hp), (hfr _ (hfs p hp).1).2, (hfr _ (hfs p hp).1).1⟩
  replace N := News.more N (hNf _ mem4).1 (hNf _ mem4).2.1 (hNf _ mem4).2.2
  replace N := News.more N (hNf _ mem3).1 (hNf _ mem3).2.1 (hNf _ mem3).2.2
  replace N := News.more N (hNf _ mem2).1 (hNf _ mem2).2.1 (hNf _ mem2).2.2
  replace N := News.more N (hNf _ mem1).1 (hNf _ mem1).2.1 (hNf _ mem1).2.2
  replace N := News.more N (hNf _ mem0).1 (hNf _ mem0).2.1 (hNf _ mem0).2.2
  have g1 : @LT.lt Nat _ (L' + 1) f1 := hgt _ mem0
  have g2 : @LT.lt Nat _ (L' + 1) f2 := hgt _ mem1
  have g3 : @LT.lt Nat _ (L' + 1) f3 := hgt _ mem2
  have g4 : @LT.lt Nat _ (L' + 1) f4 := hgt _ mem3
  have g5 : @LT.lt Nat _ (L' + 1) f5 := hgt _ mem4
  obtain ⟨fl2, rfl⟩ : ∃ a, v2 = .ref a := let ⟨a, _, _, _, _, _, x, _⟩ := hF2; ⟨a, x⟩
  k_steps
  rename Fr _ _ _ _ => F
  rename News _ _ _ _ => N
  rename IsRange _ _ _ _ _ _ _ _ => hran
  refine re_news N (by assumption) ?_
  intro l FX oc el dc hFX N2
  subst el
  have hFXp : ∀ p ∈ FX, p.1 ≠ pl2 := by
    rw [hFX]
    refine List.forall_mem_cons.mpr ⟨?_, List.forall_mem_cons.mpr ⟨(hfs _ mem0).2, List.forall_mem_cons.mpr ⟨(hfs _ mem1).2, List.forall_mem_cons.mpr ⟨(hfs _ mem2).2, List.forall_mem_cons.mpr ⟨(hfs _ mem3).2, List.forall_mem_cons.mpr ⟨(hfs _ mem4).2, List.forall_mem_cons.mpr ⟨?_, List.forall_mem_cons.mpr ⟨?_, List.forall_mem_cons.mpr ⟨?_, fun _ h => nomatch h⟩⟩⟩⟩⟩⟩⟩⟩⟩
    · show @Ne Nat _ _; omega
    · show @Ne Nat _ _; omega
    · show @Ne Nat _ _; omega
    · show @Ne Nat _ _; omega
  have hinl : parts.flatten.length ≤ 100000 := by
    have := hs.2
    have := slen_le (k := k) (n := parts.flatten.length) (by omega)
    omega
  clear N
  refine LCg.CompSrc.range hh F N2 hran (small_one (by decide) (by decide) (by omega) (by omega)) (n := ts.length) (by rw [rangeSize_nat]; omega) (by rw [sizeLine_eq]; omega) ?_
  intro g'
  refine compRest_ind (fun i ys nw => ∃ os tp2, nw = (pl2, listOf #[.int (((parts.take i).flatten.length : Nat) : Int) tp2] 0) :: (os ++ FX) ∧ PySem.Paired (TreeL os n) ys (ts.take i) ∧ ∀ p ∈ os, L' ≤ p.1 ∧ p.1 ≠ pl2) ts.length ?_ ?_ _ 0 [] _ (by omega) ⟨[], t5, rfl, by simpa using PySem.Paired.nil, fun _ h => nomatch h⟩
  · rintro i ys nw v I oI Cc oC D m₂ h tk E' hi ⟨os, tp2, rfl, hys, hos⟩ hPv hC hm F hN off ne
    have hN0 := hN
    have hmFX : ∀ {p}, p ∈ FX → p ∈ (I, oI) :: (Cc, oC) :: (D, LCg.lst ys) :: (pl2, listOf #[.int (((parts.take i).flatten.length : Nat) : Int) tp2] 0) :: (os ++ FX) := fun hp => List.mem_cons_of_mem _ (List.mem_cons_of_mem _ (List.mem_cons_of_mem _ (List.mem_cons_of_mem _ (List.mem_append_right _ hp))))
    have hcm : (L' + 1, oc) ∈ FX := by rw [hFX]; exact mem7
    have N1 : News g L' h [(I, oI), (Cc, oC), (D, LCg.lst ys), (L' + 1, oc)] := fun p hp => by
      simp only [List.mem_cons, List.not_mem_nil, or_false] at hp
      rcases hp with rfl | rfl | rfl | rfl
      · exact hN _ mem0
      · exact hN _ mem1
      · exact hN _ mem2
      · exact hN _ (hmFX hcm)
    have hPn := (hN _ (hmFX (p := (100, tabObj ps)) (by rw [hFX]; exact mem8))).1
    have hpn := (hN _ mem3).1
    have hH2n : ∀ b o, H2.get? b = some o → h.get? b = some o := fun b o e => by
      rcases hH2g b o e with q | q
      · exact F.keep _ _ q
      · refine (hN (b, o) (hmFX ?_)).1
        rw [hFX]
        refine List.mem_cons_of_mem _ ?_
        simp only [List.mem_cons, List.not_mem_nil, or_false] at q ⊢
        rcases q with q | q | q | q | q <;> simp [q]
    have hoff := LCg.Off3.mem off
    clear hN
    have hNh : hN0 = hN0 := rfl
    have hti : i < ts.length := hi
    obtain ⟨p', hp1, hp2⟩ := Paired.get2 hw i ts[i] (List.getElem?_eq_getElem hti)
    have hIlt := Heap.lt_size (hN0 _ mem0).1
    have hClt := Heap.lt_size (hN0 _ mem1).1
    have hDlt := Heap.lt_size (hN0 _ mem2).1
    have hLlt := F.ns.lt
    k_steps
    refine IH _ _ _ _ (.ref fl2) ts[i] p' (parts.drop (i + 1)).flatten parts.flatten H2 pl2 ((parts.take i).flatten.length) 0 tp2 ps (Ok.keeps ⟨X, T, C⟩ hgH2) hH2n hF2 hH2100 hPn ((hT.keeps hBg).keeps hgH2) hpn (by show @Ne Nat _ _; omega) (flat_drop hp1) hp2 (hf _ (List.getElem_mem hti)) hinl (by k_room) hh ?_
    intro v' os' h' tk' tp' htree hos' hpl' hk'
    k_unfold
    have hfr' : ∀ a, h.objs.size ≤ a → g.get? a = none ∧ a ≠ L' := fun a ha => fresh_in F ha
    have hgp2 : g.get? pl2 = none := (hN0 _ mem3).2.2
    have hLp2 : pl2 ≠ L' := (hN0 _ mem3).2.1
    have F' := fr_one F hk' hLp2 hgp2
    refine LCg.CompEnd.intro (all := (I, oI) :: (Cc, oC) :: (D, LCg.lst ys) :: (pl2, listOf #[.int (((parts.take i).flatten.length + p'.length : Nat) : Int) tp'] 0) :: ((os' ++ os) ++ FX)) F' ?_ _ (fun p hp => hp) (LCg.Off3.of ?_) trivial ⟨os' ++ os, tp', by rw [flat_next hp1], ?_, ?_⟩
    · intro p hp
      by_cases hpp : p = (pl2, listOf #[.int (((parts.take i).flatten.length + p'.length : Nat) : Int) tp'] 0)
      · rw [hpp]; exact ⟨hpl', hLp2, hgp2⟩
      by_cases hpo : p ∈ os'
      · exact ⟨(hos' p hpo).1, (hfr' _ (hos' p hpo).2).2, (hfr' _ (hos' p hpo).2).1⟩
      have old : ∀ q, q ∈ (I, oI) :: (Cc, oC) :: (D, LCg.lst ys) :: (pl2, listOf #[.int (((parts.take i).flatten.length : Nat) : Int) tp2] 0) :: (os ++ FX) → q.1 ≠ pl2 → h'.get? q.1 = some q.2 ∧ q.1 ≠ L' ∧ g.get? q.1 = none := fun q hq hne => ⟨hk' _ _ hne (hN0 q hq).1, (hN0 q hq).2⟩
      have hpI := hoff (pl2, listOf #[.int (((parts.take i).flatten.length : Nat) : Int) tp2] 0) mem0
      rcases List.mem_cons.mp hp with rfl | hp
      · exact old _ mem0 (Ne.symm hpI.1)
      rcases List.mem_cons.mp hp with rfl | hp
      · exact old _ mem1 (Ne.symm hpI.2.1)
      rcases List.mem_cons.mp hp with rfl | hp
      · exact old _ mem2 (Ne.symm hpI.2.2)
      rcases List.mem_cons.mp hp with rfl | hp
      · exact absurd rfl hpp
      rcases List.mem_append.mp hp with hp | hp
      · rcases List.mem_append.mp hp with hp | hp
        · exact absurd hp hpo
        · exact old p (List.mem_cons_of_mem _ (List.mem_cons_of_mem _ (List.mem_cons_of_mem _ (List.mem_cons_of_mem _ (List.mem_append_left _ hp))))) (hos p hp).2
      · exact old p (hmFX hp) (hFXp p hp)
    · intro p hp
      rcases List.mem_cons.mp hp with rfl | hp
      · exact hoff (pl2, listOf #[.int (((parts.take i).flatten.length : Nat) : Int) tp2] 0) mem0
      rcases List.mem_append.mp hp with hp | hp
      · rcases List.mem_append.mp hp with hp | hp
        · have hge := (hos' p hp).2
          exact ⟨fun q => Nat.not_lt.mpr hge (q ▸ hIlt), fun q => Nat.not_lt.mpr hge (q ▸ hClt), fun q => Nat.not_lt.mpr hge (q ▸ hDlt)⟩
        · exact hoff p (List.mem_cons_of_mem _ (List.mem_append_left _ hp))
      · exact hoff p (List.mem_cons_of_mem _ (List.mem_append_right _ hp))
    · rw [List.take_add_one, List.getElem?_eq_getElem hti]
      exact (Paired.imp (fun a b => TreeL.mono (fun p hp => List.mem_append_right _ hp) n a b) hys).snoc (TreeL.mono (fun p hp => List.mem_append_left _ hp) n _ _ htree)
    · intro p hp
      rcases List.mem_append.mp hp with hp | hp
      · have hge := (hos' p hp).2
        have hplt := Heap.lt_size hpn
        exact ⟨Nat.le_of_lt (Nat.lt_of_lt_of_le hLlt hge), fun q => Nat.not_lt.mpr hge (q ▸ hplt)⟩
      · exact hos p hp
  · rintro ys nw ⟨os, tp2, rfl, hys, hos⟩
    intro D3 h3 tk3 F3 N3 off3
    have hmFX : ∀ {p}, p ∈ FX → p ∈ (D3, LCg.lst ys) :: (pl2, listOf #[.int (((parts.take ts.length).flatten.length : Nat) : Int) tp2] 0) :: (os ++ FX) := fun hp => List.mem_cons_of_mem _ (List.mem_cons_of_mem _ (List.mem_append_right _ hp))
    have hall : ts.take ts.length = ts := List.take_length
    rw [hall] at hys
    have hyl : ys.length = ts.length := hys.length
    refine add_cons (a' := (k : Int)) F3 N3 (hmFX (by rw [hFX]; exact mem0)) mem0 (by omega) ?_ ?_
    · intro t6 D4 h4 F4 N4 hlt
      k_unfold
      have hD4 : @LT.lt Nat _ (L' + 1) D4 := hlt (L' + 1, oc) (hmFX (by rw [hFX]; exact mem7))
      refine ret (.ref D4) ((D4, listOf (.int (k : Int) t6 :: ys).toArray 0) :: os) h4 _ tp3 ⟨D4, ys, t6, 0, rfl, mem0, Paired.imp (fun a b => TreeL.mono (fun p hp => List.mem_cons_of_mem _ hp) n a b) hys⟩ ?_ ?_ ?_
      · refine List.forall_mem_cons.mpr ⟨⟨(N4 _ mem0).1, by show @LE.le Nat _ _ _; omega⟩, fun p hp => ⟨(N4 p (List.mem_cons_of_mem _ (List.mem_cons_of_mem _ (List.mem_cons_of_mem _ (List.mem_append_left _ hp))))).1, hL ▸ (hos p hp).1⟩⟩
      · rw [show pos + (3 + signs.length) = pos + 1 + 1 + 1 + signs.length by omega]
        exact (N4 (pl, _) (List.mem_cons_of_mem _ (hmFX (by rw [hFX]; exact mem6)))).1
      · intro b o hb e
        by_cases hb2 : b = 100
        · rw [hb2, hP] at e; cases e; rw [hb2]
          exact (N4 (100, tabObj ps) (List.mem_cons_of_mem _ (hmFX (by rw [hFX]; exact mem8)))).1
        · exact F4.keep _ _ (up b o e hb hb2)
    · omega

theorem opened_spec {w : World} {loose : List Str} {mean : ExcName → Option Value} {mg mb : Str → Option Value} : ∀ n, Opens w loose mean mg mb n
  | n, A, s, Q, E, v, .leaf b, ks, rest, oct, B, pl, pos, e, tp, ps, O, hB, hF, h100, hP, hT, hpl, hp1, hoct, hw, hf, hol, hd, hh, ret => by
    have hw := Writes.leaf_iff.mp hw
    subst hw
    refine opened_leaf O hB hF hpl hoct hol (by omega) hh ?_
    intro bb t' h' tk tp' hbb hpl' hk
    refine ret _ [] h' tk tp' (TreeL.leaf_iff.mpr ⟨bb, t', rfl, hbb⟩) (fun _ h => nomatch h) ?_ hk
    rw [hpl', show pos + (2 + b.length) = pos + ((0 : Int) :: (b.length : Int) :: b).length by simp only [List.length_cons]; omega]
  | 0, A, s, Q, E, v, .box k ts, ks, rest, oct, B, pl, pos, e, tp, ps, O, hB, hF, h100, hP, hT, hpl, hp1, hoct, hw, hf, hol, hd, hh, ret => hw.elim
  | n + 1, A, s, Q, E, v, .box k ts, ks, rest, oct, B, pl, pos, e, tp, ps, O, hB, hF, h100, hP, hT, hpl, hp1, hoct, hw, hf, hol, hd, hh, ret => by
    obtain ⟨parts, signs, hw, hs, rfl⟩ := hw
    obtain ⟨h1, h2, h3, h4⟩ := (show k < 3 ∧ ts.length < 256 ∧ slen k ((ts.map (wlen n)).sum) < 256 ∧ ∀ t ∈ ts, Fits n t from hf)
    refine opened_box O hB hF h100 hP hT hpl hp1 hoct hol (by omega) hh h1 h2 (box_len hw hs h3) hw hs h4 (Paired.flat_in (writes_in n) hw h4) (opened_spec n) ?_
    intro v' os h' tk tp' ht hos hpl' hk
    refine ret v' os h' tk tp' ht hos ?_ hk
    rw [hpl', show pos + (3 + signs.length) = pos + (((k : Int) + 1) :: (ts.length : Int) :: (signs.length : Int) :: signs).length by simp only [List.length_cons]; omega]
end
section
open PySem PySem.W PyProof.Rows PySem.Calls
theorem try_quiet {prog : Program} {w : World} {A : Around} {E : Value → Shared → Prop} {s : Shared} {env : Env} {body orelse : List Stmt} {h₀ : ExceptHandler} {hs : List ExceptHandler} {pos : Pos} {Q : Flow → Shared → Prop}
    (h : wpAny (model prog w) A (execs body env) (fun f s₁ => match f with | .next => wpAny (model prog w) A (execs orelse env) Q E s₁ | f => Q f s₁) (fun _ _ => False) s) :
    wpAny (model prog w) A (exec (.Try body (h₀ :: hs) orelse [] pos) env) Q E s := wpAny_Try_except (wpAny_mono h (fun _ _ q => q) fun _ _ x => x.elim)
theorem told_spec {w : World} {loose : List Str} {mean : ExcName → Option Value} {mg mb : Str → Option Value} {A : Around} {s : Shared} {Q E : Value → Shared → Prop} {B : Heap} {b : Array UInt8} {tb : Tok} {ks : List Int} {n : Nat} {t : Tree}
    (O : Ok w loose mean mg mb B) (hB : ∀ b o, B.get? b = some o → s.heap.get? b = some o) (h100 : B.get? 100 = none) (hP : s.heap.get? 100 = some (tabObj #[])) (hb : KBw.bInts b = ks ++ [80, 75]) (hks : ks.length ≤ 1000)
    (hw : Writes n t ks) (hf : Fits n t) (hdp : A.depth + n + 5 < recursionLimit) (hh : A.handled = none)
    (ret : ∀ x os tv bb tt h' tk, TreeL os n tv t → (∀ p ∈ os, h'.get? p.1 = some p.2 ∧ s.heap.objs.size ≤ p.1) → h'.get? x = some (listOf #[tv, .bytes bb tt] 0) → s.heap.objs.size ≤ x → KBw.bInts bb = [80, 75] → (∀ b o, b ≠ 100 → s.heap.get? b = some o → h'.get? b = some o) → (∃ ps, h'.get? 100 = some (tabObj ps) ∧ TabOk h' ps) → Q (.ref x) { s with heap := h', toks := tk }) :
    wpAny (model PR w) A (call (.ref 122) [.bytes b tb]) Q E s := by
  w_top off
  k_with_none
  (k_with "getMethod ref" => (refine get_fn_read (by assumption) (by assumption) ?_; intro _))
  (k_with "callWith ref" => (refine callWith_F (by assumption) ?_))
  (k_with "And" => ((with_reducible show FnAt _ _ ∧ _); refine ⟨by assumption, ?_⟩; try dsimp only [List.nil_append, List.cons_append]))
  (k_with "exec Try" => ((with_reducible show wpAny _ _ (exec (Stmt.Try _ (_ :: _) _ [] _) _) _ _ _); refine try_quiet ?_))
  (have kfill0 : (Mine.hd.heap_39 = Mine.hd.heap_39) ∧ PySem.Challenge.rw_mr0056_01 = PySem.Challenge.rw_mr0056_01 := by (k_fill; exact ⟨rfl, rfl⟩)); clear kfill0
  obtain ⟨X, T, C⟩ := O
  refine wpAny_call ?_
  refine' enterKM (muts := [(100, tabObj #[])]) (binds := [(Str.ofString "octets", .bytes b tb)]) (X.keeps hB) (T.nolimit.keeps hB) ?hm ?k6 ?k7 ?k8 ?k9 ?kB ?_ ?c5 ?c2 ?c3 ?c4
  (case k6 => k_is)
  (case k7 => k_is)
  (case k8 => k_room)
  (case k9 => first | exact BindsTo.of_eq rfl | exact binds_K (Frag.In.keeps X hB) rfl (by k_is) rfl rfl rfl)
  (case c5 => decide)
  (case kB => exact locs rfl)
  (case c2 => exact rfl)
  (case c3 => exact rfl)
  (case c4 => exact rfl)
  (case hm => exact fun p hp => by rw [List.mem_singleton.mp hp]; exact hP)
  intro g L' h₁ tk0 hk hmn hsz F N l1
  k_fold
  have up : ∀ b o, s.heap.get? b = some o → b ≠ 100 → g.get? b = some o := fun b o e hb => hk b o e (fun p hp q => by rw [List.mem_singleton.mp hp] at q; exact hb q.symm)
  have hBg : ∀ b o, B.get? b = some o → g.get? b = some o := fun b o e => up b o (hB b o e) (fun q => by rw [q, h100] at e; cases e)
  have hg100 : g.get? 100 = none := hmn (100, _) mem0
  replace X := X.keeps hBg
  replace T := T.keeps hBg
  replace C := C.keeps hBg
  k_lt l1
  simp only [List.reverse_cons, List.reverse_nil, List.nil_append] at F
  k_steps
  refine file_first (B := g) ⟨X, T, C⟩ F.keep hg100 (N _ mem0).1 (by k_room) hh hb ?_
  intro v2 H2 pl2 t5 h5 tk5 ps f1 f2 f3 f4 f5 f6 o1 o2 o3 o4 o5 o6 hF2 hH2h hgH2 hH2g hH2f hfs hpl5 hsz5 hP5 hT5 hk5
  generalize [(f1, o1), (f2, o2), (f3, o3), (f4, o4), (f5, o5), (f6, o6)] = FS at hH2g hH2f hfs
  clear f1 f2 f3 f4 f5 f6 o1 o2 o3 o4 o5 o6
  have hs0 : s.heap.objs.size ≤ L' := hsz ▸ F.above
  have hfr : ∀ a, h₁.objs.size ≤ a → g.get? a = none ∧ a ≠ L' := fun a ha => fresh_in F ha
  have hLlt : L' < h₁.objs.size := F.ns.lt
  have hH2p : H2.get? pl2 = none := let ⟨_, _, _, _, _, _, _, _, _, _, x, _⟩ := hF2; x
  have h100lt : @LT.lt Nat _ 100 h₁.objs.size := Heap.lt_size (N _ mem0).1
  have hp100 : @Ne Nat pl2 100 := fun q => by have : @LE.le Nat _ h₁.objs.size pl2 := hsz5; omega
  have hf100 : ∀ p ∈ FS, @Ne Nat p.1 100 := fun p hp q => by have : @LE.le Nat _ h₁.objs.size p.1 := (hfs p hp).1; omega
  have hH2100 : H2.get? 100 = none := by
    cases q : H2.get? 100 with
    | none => rfl
    | some o =>
      rcases hH2g _ _ q with q1 | q1
      · rw [hg100] at q1; cases q1
      · exact absurd rfl (hf100 _ q1)
  replace F := fr_one F hk5 (N _ mem0).2.1 hg100
  have N5 : News g L' h5 ((pl2, listOf #[.int 0 t5] 0) :: (100, tabObj ps) :: FS) := fun p hp => by
    rcases List.mem_cons.mp hp with rfl | hp
    · exact ⟨hpl5, (hfr _ hsz5).2, (hfr _ hsz5).1⟩
    rcases List.mem_cons.mp hp with rfl | hp
    · exact ⟨hP5, (N _ mem0).2⟩
    · exact ⟨hH2h _ _ (hH2f p hp), (hfr _ (hfs p hp).1).2, (hfr _ (hfs p hp).1).1⟩
  clear N
  have hF20 := hF2
  obtain ⟨fl, d, rd, fd, hsh, tn, rfl, hfl, hdd, hRO, _, hfn⟩ := hF2
  k_steps
  rename Fr _ _ _ _ => F
  rename News _ _ _ _ => N
  have hH2n : ∀ b o, H2.get? b = some o → _ = some o := fun b o e => by
    rcases hH2g b o e with q | q
    · exact F.keep _ _ q
    · exact (N (b, o) (List.mem_cons_of_mem _ (List.mem_cons_of_mem _ q))).1
  refine opened_spec n _ _ _ _ (.ref fl) t ks [80, 75] (ks ++ [80, 75]) H2 pl2 0 0 t5 ps (Ok.keeps ⟨X, T, C⟩ hgH2) hH2n hF20 hH2100 (N _ mem1).1 hT5 (N _ mem0).1 hp100 rfl hw hf (by simp only [List.length_append, List.length_cons, List.length_nil]; omega) (by k_room) hh ?_
  intro tv os h6 tk6 tp6 htree hos hpl6 hk6
  have hgp2 : g.get? pl2 = none := (N _ mem0).2.2
  have hLp2 : pl2 ≠ L' := (N _ mem0).2.1
  have hp2lt := Heap.lt_size (N _ mem0).1
  have N6 : News g L' h6 ((pl2, listOf #[.int ((0 + ks.length : Nat) : Int) tp6] 0) :: (100, tabObj ps) :: (os ++ FS)) := fun p hp => by
    rcases List.mem_cons.mp hp with rfl | hp
    · exact ⟨hpl6, hLp2, hgp2⟩
    rcases List.mem_cons.mp hp with rfl | hp
    · exact ⟨hk6 _ _ (Ne.symm hp100) (N _ mem1).1, (N _ mem1).2⟩
    rcases List.mem_append.mp hp with hp | hp
    · exact ⟨(hos p hp).1, (fresh_in F (hos p hp).2).2, (fresh_in F (hos p hp).2).1⟩
    · have hm := List.mem_cons_of_mem (pl2, listOf #[.int 0 t5] 0) (List.mem_cons_of_mem (100, tabObj ps) hp)
      exact ⟨hk6 _ _ (hfs p hp).2 (N p hm).1, (N p hm).2⟩
  have hosge : ∀ p ∈ os, L' ≤ p.1 ∧ p.1 ≠ pl2 := fun p hp => ⟨Nat.le_of_lt (Nat.lt_of_lt_of_le F.ns.lt (hos p hp).2), fun q => Nat.not_lt.mpr (hos p hp).2 (q ▸ hp2lt)⟩
  replace F := fr_one F hk6 hLp2 hgp2
  clear N hH2n hos hpl6
  k_steps
  rename Fr _ _ _ _ => F
  rename News _ _ _ _ => N
  have hH2n : ∀ b o, H2.get? b = some o → _ = some o := fun b o e => by
    rcases hH2g b o e with q | q
    · exact F.keep _ _ q
    · exact (N (b, o) (List.mem_cons_of_mem _ (List.mem_cons_of_mem _ (List.mem_append_right _ q)))).1
  have hfl' := hH2n _ _ hfl
  have hdd' := hH2n _ _ hdd
  have hfn' : FnAt rd _ := let ⟨a, b, c, d, e⟩ := hfn; ⟨a, b, c, d, hH2n _ _ e⟩
  k_steps
  refine hRO _ _ _ _ (0 + ks.length) 3 0 tp6 _ hH2n (N _ mem0).1 (by k_room) hh (by simp only [List.length_append, List.length_cons, List.length_nil]; omega) ?_
  intro bb t7 h7 tk7 tp7 hbb hpl7 hk7
  have hbb' : KBw.bInts bb = [80, 75] := by rw [hbb, Nat.zero_add]; simp
  have N7 : News g L' h7 ((pl2, listOf #[.int ((0 + ks.length + 3 : Nat) : Int) tp7] 0) :: (100, tabObj ps) :: (os ++ FS)) := fun p hp => by
    rcases List.mem_cons.mp hp with rfl | hp
    · exact ⟨hpl7, hLp2, hgp2⟩
    · refine ⟨hk7 _ _ ?_ (N p (List.mem_cons_of_mem _ hp)).1, (N p (List.mem_cons_of_mem _ hp)).2⟩
      rcases List.mem_cons.mp hp with rfl | hp
      · exact Ne.symm hp100
      rcases List.mem_append.mp hp with hp | hp
      · exact (hosge p hp).2
      · exact (hfs p hp).2
  replace F := fr_one F hk7 hLp2 hgp2
  clear N hH2n hpl7 hfl' hdd' hfn'
  k_steps
  rename Fr _ _ _ _ => F
  rename News _ _ _ _ => N
  have hx : ∀ {l : Addr}, pl2 < l → s.heap.objs.size ≤ l := fun {l} hl => Nat.le_trans hs0 (Nat.le_trans (Nat.le_of_lt hLlt) (Nat.le_trans hsz5 (Nat.le_of_lt hl)))
  refine ret _ os tv bb t7 _ _ htree (fun p hp => ⟨(N p (List.mem_cons_of_mem _ (List.mem_cons_of_mem _ (List.mem_cons_of_mem _ (List.mem_append_left _ hp))))).1, Nat.le_trans hs0 (hosge p hp).1⟩) (N _ mem0).1 (hx (And.left (by assumption))) hbb' (fun b o hb e => F.keep _ _ (up b o e hb)) ⟨ps, (N _ mem2).1, hT5.keeps fun b o e => ?_⟩
  rcases hH2g b o e with q | q
  · exact F.keep _ _ q
  · exact (N (b, o) (List.mem_cons_of_mem _ (List.mem_cons_of_mem _ (List.mem_cons_of_mem _ (List.mem_append_right _ q))))).1
end
section
open PySem PySem.W PyProof.Rows PySem.Calls
section
variable {prog : Program} {w : World} {A : Around} {E : Value → Shared → Prop} {s : Shared} {env : Env} {h₀ : Heap} {L : Addr} {x : Str} {px pos : Pos} {iter : Expr} {body : List Stmt} {Q : Flow → Shared → Prop}
/-- a loop over a list of the ground, its variable of any kind -/
def CellLoop (prog : Program) (w : World) (A : Around) (h₀ : Heap) (L : Addr) (env : Env) (x : Str) (px : Pos) (body : List Stmt) (Q : Flow → Shared → Prop) (xv : Value) (s : Shared) : Prop :=
  ∃ ax its m news, ∃ (J : Nat → (Str → Option Value) → List (Addr × Obj) → Prop), xv = .ref ax ∧ A.handled = none ∧ h₀.IsList ax its ∧ Fr h₀ L s.heap m ∧ News h₀ L s.heap news ∧ J 0 m news ∧
    (∀ i v m₁ news₁ h tk I oI, its[i]? = some v → J i m₁ news₁ → (∀ p ∈ news₁, p.1 ≠ I) → Fr h₀ L h m₁ → News h₀ L h ((I, oI) :: news₁) →
      wpAny (model prog w) A (assign (.Name x px) env v) (fun _ s₂ => wpAny (model prog w) A (execs body env) (TurnEnd h₀ L s I oI (J (i + 1))) (fun _ _ => False) s₂) (fun _ _ => False) { s with heap := h, toks := tk }) ∧
    (∀ m₁ news₁ h tk, J its.size m₁ news₁ → Fr h₀ L h m₁ → News h₀ L h news₁ → Q .next { s with heap := h, toks := tk })
theorem For_cell (h : wpAny (model prog w) A (eval iter env) (CellLoop prog w A h₀ L env x px body Q) E s) (hs : ∀ x, foldedSetIterable iter env x = pure x := by intro _; rfl) :
    wpAny (model prog w) A (exec (.For (.Name x px) iter body [] pos) env) Q E s := by
  refine wpAny_For (wpAny_mono h (fun xv s₁ h₁ => ?_) fun _ _ e => e) hs
  obtain ⟨ax, its, m, news, J, rfl, hh, hl0, F, N, h0, turn, done⟩ := h₁
  have hl : s₁.heap.IsList ax its := let ⟨o, e, r⟩ := hl0; ⟨o, F.keep _ _ e, r⟩
  have hlt : ax < s₁.heap.objs.size := by obtain ⟨_, e, _⟩ := hl; exact Heap.lt_size e
  refine wpAny_pyIter_list hl ?_
  generalize hI : s₁.heap.objs.size = I at *
  have hI₀ : h₀.get? I = none := hI ▸ next_is_new F
  have hLI : L ≠ I := fun q => absurd F.ns.lt (by rw [q, hI]; exact Nat.lt_irrefl _)
  have hnI : ∀ p ∈ news, p.1 ≠ I := fun p hp q => absurd (Heap.lt_size (N p hp).1) (by rw [q, hI]; exact Nat.lt_irrefl _)
  have W := Walks.list (prog := prog) (w := w) hh I ax (Nat.ne_of_lt hlt) its
  refine codeAny_forLoop
    (fun k s' => ∃ h' tk m' news' i, s' = { s₁ with heap := h', toks := tk } ∧ (h'.IsListIter I ax i ∧ h'.IsList ax its) ∧ Fr h₀ L h' m' ∧ News h₀ L h' news' ∧ (∀ p ∈ news', p.1 ≠ I) ∧ J i m' news' ∧ i ≤ its.size ∧ k = its.size + 1 - i) ?_ (its.size + 1)
    ⟨_, _, m, news, 0, rfl, ⟨⟨_, hI ▸ Heap.get?_push_size _ rfl, rfl, rfl⟩, hl.push _⟩, F.push _, (fun p hp => ⟨Heap.get?_push_of_some _ (N p hp).1, (N p hp).2⟩), hnI, h0, Nat.zero_le _, rfl⟩
  rintro k s' ⟨h', tk, m', news', i, rfl, hst', F', N', hnw', hJ, hi, rfl⟩
  have next : ∀ h₁ : Heap, (∀ b o, b ∉ [I] → h'.get? b = some o → h₁.get? b = some o) → Fr h₀ L h₁ m' ∧ News h₀ L h₁ news' := fun h₁ hk₁ =>
    ⟨⟨F'.ns.at' fun o e => hk₁ _ o (by simpa using hLI) e, fun b o e => hk₁ b o (by simpa using fun q => by rw [q, hI₀] at e; cases e) (F'.keep b o e), F'.above⟩, fun p hp => ⟨hk₁ _ _ (by simpa using hnw' p hp) (N' p hp).1, (N' p hp).2⟩⟩
  by_cases hlt : i < its.size
  · refine W.item i _ _ _ hlt hst' fun v h₁ tk₁ hP hst₁ hk₁ => ?_
    obtain ⟨F₁, N₁⟩ := next h₁ hk₁
    obtain ⟨oI, hoI, hcI⟩ := hst₁.1
    have N₂ : News h₀ L h₁ ((I, oI) :: news') := fun p hp => by
      rcases List.mem_cons.mp hp with rfl | hp
      · exact ⟨hoI, Ne.symm hLI, hI₀⟩
      · exact N₁ p hp
    refine wpAny_mono (turn i v m' news' h₁ tk₁ I oI hP hJ hnw' F₁ N₂) (fun _ s₂ h₂ => wpAny_mono h₂ (fun f s₃ h₃ => ?_) fun _ _ x => x.elim) fun _ _ x => x.elim
    obtain ⟨rfl, h₃', tk₃, m₂, news₂, rfl, F₃, N₃, ha₃, hJ₃⟩ := h₃
    refine ⟨its.size + 1 - (i + 1), by omega, h₃', tk₃, m₂, news₂, i + 1, rfl, ⟨⟨oI, (N₃ _ (List.mem_cons_self ..)).1, hcI⟩, let ⟨o, e, r⟩ := hl0; ⟨o, F₃.keep _ _ e, r⟩⟩, F₃, fun p hp => N₃ p (List.mem_cons_of_mem _ hp), ha₃, hJ₃, hlt, rfl⟩
  · have hin : i = its.size := by omega
    subst hin
    refine W.done _ _ _ hst' fun h₁ tk₁ hk₁ => wpAny_execs_nil ?_
    obtain ⟨F₁, N₁⟩ := next h₁ hk₁
    exact done m' news' h₁ tk₁ hJ F₁ N₁
end
end
section
open PySem PySem.W PyProof.Rows
/-- a thing laid in a box: octets, or the box at an address -/
inductive Ch where
  | oct (b : List Int)
  | sub (a : Addr)
/-- what a box's things cost, boxes counted twice -/
def G (f : Addr → List Ch) : Nat → Addr → Nat
  | 0, _ => 0
  | n + 1, a => ((f a).map fun c => match c with | .oct b => 2 + b.length | .sub x => 3 + 2 * G f n x).sum
/-- how often, and how deep, p lies in a -/
def Wt (f : Addr → List Ch) (p : Addr) : Nat → Addr → Nat
  | 0, _ => 0
  | n + 1, a => (if a = p then 1 else 0) + ((f a).map fun c => match c with | .oct _ => 0 | .sub x => 2 * Wt f p n x).sum
def lay (f : Addr → List Ch) (p : Addr) (c : Ch) : Addr → List Ch := fun x => if x = p then f p ++ [c] else f x
theorem lay_self {f : Addr → List Ch} {p : Addr} {c : Ch} : lay f p c p = f p ++ [c] := if_pos rfl
theorem lay_ne {f : Addr → List Ch} {p x : Addr} {c : Ch} (h : x ≠ p) : lay f p c x = f x := if_neg h
theorem sum_add {l : List Ch} {u v w : Ch → Nat} (h : ∀ c ∈ l, u c = v c + w c) : (l.map u).sum = (l.map v).sum + (l.map w).sum := by
  induction l with
  | nil => rfl
  | cons c r ih =>
    rw [List.map_cons, List.sum_cons, List.map_cons, List.sum_cons, List.map_cons, List.sum_cons, h c (List.mem_cons_self ..), ih fun c hc => h c (List.mem_cons_of_mem _ hc)]
    omega
theorem sum_mul {l : List Ch} {u : Ch → Nat} {k : Nat} : (l.map fun c => u c * k).sum = (l.map u).sum * k := by
  induction l with
  | nil => simp
  | cons c r ih => rw [List.map_cons, List.sum_cons, ih, List.map_cons, List.sum_cons, Nat.add_mul]
theorem sum_le {l : List Ch} {u v : Ch → Nat} (h : ∀ c ∈ l, u c ≤ v c) : (l.map u).sum ≤ (l.map v).sum := by
  induction l with
  | nil => exact Nat.le_refl _
  | cons c r ih =>
    have h1 := h c (List.mem_cons_self ..)
    have h2 := ih fun c hc => h c (List.mem_cons_of_mem _ hc)
    rw [List.map_cons, List.sum_cons, List.map_cons, List.sum_cons]
    omega
def cst (f : Addr → List Ch) (n : Nat) : Ch → Nat
  | .oct b => 2 + b.length
  | .sub x => 3 + 2 * G f n x
def wgt (f : Addr → List Ch) (p : Addr) (n : Nat) : Ch → Nat
  | .oct _ => 0
  | .sub x => 2 * Wt f p n x
theorem G_succ {f : Addr → List Ch} {n : Nat} {a : Addr} : G f (n + 1) a = ((f a).map (cst f n)).sum := by
  show ((f a).map _).sum = _
  refine congrArg List.sum (List.map_congr_left fun c _ => ?_)
  cases c <;> rfl
theorem W_succ {f : Addr → List Ch} {p : Addr} {n : Nat} {a : Addr} : Wt f p (n + 1) a = (if a = p then 1 else 0) + ((f a).map (wgt f p n)).sum := by
  show (if a = p then 1 else 0) + ((f a).map _).sum = _
  refine congrArg (fun z => _ + List.sum z) (List.map_congr_left fun c _ => ?_)
  cases c <;> rfl
theorem lay_sum {f : Addr → List Ch} {p a : Addr} {c : Ch} {u : Ch → Nat} : ((lay f p c a).map u).sum = ((f a).map u).sum + (if a = p then u c else 0) := by
  by_cases h : a = p
  · subst h; rw [lay_self, if_pos rfl, List.map_append, List.sum_append]; simp
  · rw [lay_ne h, if_neg h]; rfl
theorem G_oct {f : Addr → List Ch} {p : Addr} {b : List Int} : ∀ n a, G (lay f p (.oct b)) n a = G f n a + Wt f p n a * (2 + b.length)
  | 0, a => by simp [G, Wt]
  | n + 1, a => by
    have key : ((f a).map (cst (lay f p (.oct b)) n)).sum = ((f a).map (cst f n)).sum + ((f a).map (wgt f p n)).sum * (2 + b.length) := by
      rw [← sum_mul]
      refine sum_add fun c _ => ?_
      cases c with
      | oct b' => simp [cst, wgt]
      | sub x =>
        show 3 + 2 * G _ n x = 3 + 2 * G f n x + 2 * Wt f p n x * (2 + b.length)
        rw [G_oct n x, Nat.mul_add, Nat.mul_assoc]; omega
    rw [G_succ, lay_sum, key, G_succ, W_succ, Nat.add_mul]
    by_cases h : a = p
    · simp only [if_pos h, cst]; omega
    · simp only [if_neg h]; omega
theorem G_none {f : Addr → List Ch} {q : Addr} (h : f q = []) : ∀ n, G f n q = 0
  | 0 => rfl
  | n + 1 => by rw [G_succ, h]; rfl
theorem W_none {f : Addr → List Ch} {p q : Addr} (h : f q = []) (hne : q ≠ p) : ∀ n, Wt f p n q = 0
  | 0 => rfl
  | n + 1 => by rw [W_succ, h, if_neg hne]; rfl
theorem W_oct {f : Addr → List Ch} {p p' : Addr} {b : List Int} : ∀ n a, Wt (lay f p (.oct b)) p' n a = Wt f p' n a
  | 0, a => rfl
  | n + 1, a => by
    have key : ((f a).map (wgt (lay f p (.oct b)) p' n)).sum = ((f a).map (wgt f p' n)).sum := by
      congr 1
      apply List.map_congr_left
      intro c _
      cases c with
      | oct _ => rfl
      | sub x => show 2 * Wt _ p' n x = 2 * Wt f p' n x; rw [W_oct n x]
    rw [W_succ, W_succ, lay_sum, key]
    simp [wgt]
theorem lay_q {f : Addr → List Ch} {p q : Addr} {c : Ch} (h : f q = []) (hne : q ≠ p) : lay f p c q = [] := by rw [lay_ne hne, h]
theorem G_box {f : Addr → List Ch} {p q : Addr} (h : f q = []) (hne : q ≠ p) : ∀ n a, G (lay f p (.sub q)) n a = G f n a + Wt f p n a * 3
  | 0, a => by simp [G, Wt]
  | n + 1, a => by
    have key : ((f a).map (cst (lay f p (.sub q)) n)).sum = ((f a).map (cst f n)).sum + ((f a).map (wgt f p n)).sum * 3 := by
      rw [← sum_mul]
      refine sum_add fun c _ => ?_
      cases c with
      | oct b' => simp [cst, wgt]
      | sub x =>
        show 3 + 2 * G _ n x = 3 + 2 * G f n x + 2 * Wt f p n x * 3
        rw [G_box h hne n x, Nat.mul_add, Nat.mul_assoc]; omega
    rw [G_succ, lay_sum, key, G_succ, W_succ, Nat.add_mul]
    have hq : cst (lay f p (.sub q)) n (.sub q) = 3 := by show 3 + 2 * G _ n q = 3; rw [G_none (lay_q h hne)]
    by_cases hp : a = p
    · simp only [if_pos hp, hq]; omega
    · simp only [if_neg hp]; omega
theorem W_box {f : Addr → List Ch} {p q p' : Addr} (h : f q = []) (hne : q ≠ p) (hne' : q ≠ p') : ∀ n a, Wt (lay f p (.sub q)) p' n a = Wt f p' n a
  | 0, a => rfl
  | n + 1, a => by
    have key : ((f a).map (wgt (lay f p (.sub q)) p' n)).sum = ((f a).map (wgt f p' n)).sum := by
      congr 1
      apply List.map_congr_left
      intro c _
      cases c with
      | oct _ => rfl
      | sub x => show 2 * Wt _ p' n x = 2 * Wt f p' n x; rw [W_box h hne hne' n x]
    have hq : wgt (lay f p (.sub q)) p' n (.sub q) = 0 := by show 2 * Wt _ p' n q = 0; rw [W_none (lay_q h hne) hne']
    rw [W_succ, W_succ, lay_sum, key, hq]
    simp
/-- the weight of a box just laid: twice its place's -/
theorem W_new {f : Addr → List Ch} {p q : Addr} (h : f q = []) (hne : q ≠ p) (hfr : ∀ a, .sub q ∉ f a) : ∀ n a, a ≠ q → Wt (lay f p (.sub q)) q n a ≤ 2 * Wt f p n a
  | 0, a, _ => by simp [Wt]
  | n + 1, a, haq => by
    have key : ((f a).map (wgt (lay f p (.sub q)) q n)).sum ≤ ((f a).map fun c => wgt f p n c * 2).sum := by
      refine sum_le fun c hc => ?_
      cases c with
      | oct _ => simp [wgt]
      | sub x =>
        have hx : x ≠ q := fun e => hfr a (e ▸ hc)
        show 2 * Wt _ q n x ≤ 2 * Wt f p n x * 2
        have := W_new h hne hfr n x hx
        omega
    rw [sum_mul] at key
    have hq : wgt (lay f p (.sub q)) q n (.sub q) ≤ 2 := by
      show 2 * Wt _ q n q ≤ 2
      cases n with
      | zero => simp [Wt]
      | succ n => rw [W_succ, if_pos rfl, lay_q h hne]; simp
    rw [W_succ, W_succ, lay_sum, if_neg haq]
    by_cases hp : a = p
    · simp only [if_pos hp]; omega
    · simp only [if_neg hp]; omega
end
section
open PySem PySem.W PyProof.Rows
def treeOf (kd : Addr → Nat) (f : Addr → List Ch) : Nat → Addr → Tree
  | 0, _ => .leaf []
  | n + 1, a => .box (kd a) ((f a).map fun c => match c with | .oct b => .leaf b | .sub x => treeOf kd f n x)
def chT (kd : Addr → Nat) (f : Addr → List Ch) (n : Nat) : Ch → Tree
  | .oct b => .leaf b
  | .sub x => treeOf kd f n x
theorem treeOf_succ {kd : Addr → Nat} {f : Addr → List Ch} {n : Nat} {a : Addr} : treeOf kd f (n + 1) a = .box (kd a) ((f a).map (chT kd f n)) := by
  show Tree.box (kd a) ((f a).map _) = _
  refine congrArg (Tree.box (kd a)) (List.map_congr_left fun c _ => ?_)
  cases c <;> rfl
/-- the boxes lie rightly: subs of a box of depth d are boxes of depth d+1, none deeper than 2 -/
structure Deep (bx : Addr → Option Nat) (f : Addr → List Ch) : Prop where
  le : ∀ a d, bx a = some d → d ≤ 2
  sub : ∀ a d x, bx a = some d → .sub x ∈ f a → bx x = some (d + 1)
theorem slen_two {k n : Nat} (h : n ≠ 1) : slen k n ≤ 2 * n := by unfold slen; split <;> omega
def inner (kd : Addr → Nat) (f : Addr → List Ch) (n : Nat) (a : Addr) : Nat := (((f a).map (chT kd f n)).map (wlen n)).sum
theorem sum_two {l : List Tree} {u : Tree → Nat} (h : ∀ t ∈ l, 2 ≤ u t) : (l.map u).sum ≠ 1 := by
  cases l with
  | nil => exact (by decide : (0 : Nat) ≠ 1)
  | cons t r =>
    have := h t (List.mem_cons_self ..)
    rw [List.map_cons, List.sum_cons]; omega
theorem inner_of {kd : Addr → Nat} {f : Addr → List Ch} {n : Nat} {a : Addr} (h : ∀ c ∈ f a, 2 ≤ wlen n (chT kd f n c) ∧ wlen n (chT kd f n c) ≤ cst f n c) : inner kd f n a ≤ G f (n + 1) a ∧ inner kd f n a ≠ 1 := by
  constructor
  · rw [G_succ, inner, List.map_map]
    exact sum_le fun c hc => (h c hc).2
  · refine sum_two fun t ht => ?_
    obtain ⟨c, hc, rfl⟩ := List.mem_map.mp ht
    exact (h c hc).1
theorem inner_le {kd : Addr → Nat} {f : Addr → List Ch} {bx : Addr → Option Nat} (D : Deep bx f) : ∀ n a d, bx a = some d → d + n = 2 → inner kd f n a ≤ G f (n + 1) a ∧ inner kd f n a ≠ 1 := by
  intro n
  induction n with
  | zero =>
    intro a d ha hd
    refine inner_of fun c hc => ?_
    cases c with
    | oct b => simp [chT, wlen, cst]
    | sub x =>
      have := D.le _ _ (D.sub a d x ha hc)
      omega
  | succ n ih =>
    intro a d ha hd
    refine inner_of fun c hc => ?_
    cases c with
    | oct b => simp [chT, wlen, cst]
    | sub x =>
      have hx := ih x (d + 1) (D.sub a d x ha hc) (by omega)
      have e : wlen (n + 1) (chT kd f (n + 1) (.sub x)) = 3 + slen (kd x) (inner kd f n x) := by
        show wlen (n + 1) (treeOf kd f (n + 1) x) = _
        rw [treeOf_succ]; rfl
      have h2 := slen_two (k := kd x) hx.2
      rw [e]
      show 2 ≤ _ ∧ _ ≤ 3 + 2 * G f (n + 1) x
      omega
theorem mem_sum {l : List Ch} {u : Ch → Nat} {c : Ch} (h : c ∈ l) : u c ≤ (l.map u).sum := by
  induction l with
  | nil => cases h
  | cons x r ih =>
    rw [List.map_cons, List.sum_cons]
    rcases List.mem_cons.mp h with rfl | h
    · omega
    · have := ih h; omega
theorem len_sum {l : List Ch} {u : Ch → Nat} (h : ∀ c ∈ l, 2 ≤ u c) : l.length ≤ (l.map u).sum := by
  induction l with
  | nil => exact Nat.le_refl _
  | cons x r ih =>
    have h1 := h x (List.mem_cons_self ..)
    have h2 := ih fun c hc => h c (List.mem_cons_of_mem _ hc)
    rw [List.map_cons, List.sum_cons, List.length_cons]; omega
theorem cst_two {f : Addr → List Ch} {n : Nat} (c : Ch) : 2 ≤ cst f n c := by cases c <;> (simp only [cst]; omega)
theorem slen_mono {k n m : Nat} (h : n ≤ m) : slen k n ≤ slen k m := by unfold slen; split <;> omega
theorem fits_of {kd : Addr → Nat} {f : Addr → List Ch} {bx : Addr → Option Nat} (D : Deep bx f) (hk : ∀ a, kd a < 3) (hb : ∀ a b, .oct b ∈ f a → b.length < 256 ∧ ∀ c ∈ b, 0 ≤ c ∧ c < 256) :
    ∀ n a d, bx a = some d → d + n = 2 → G f (n + 1) a ≤ 189 → (kd a = 0 ∨ G f (n + 1) a ≤ 93) → Fits (n + 1) (treeOf kd f (n + 1) a) := by
  intro n
  induction n with
  | zero =>
    intro a d ha hd h1 h2
    have hi := inner_le (kd := kd) D 0 a d ha hd
    have hl : (f a).length ≤ G f (0 + 1) a := by rw [G_succ]; exact len_sum fun c _ => cst_two c
    rw [treeOf_succ]
    refine ⟨hk a, by rw [List.length_map]; omega, ?_, fun t ht => ?_⟩
    · show slen (kd a) (inner kd f 0 a) < 256
      have := slen_mono (k := kd a) hi.1
      rcases h2 with h2 | h2
      · rw [h2] at this ⊢; simp only [slen] at this ⊢; simp at this ⊢; omega
      · have := slen_two (k := kd a) hi.2; omega
    · obtain ⟨c, hc, rfl⟩ := List.mem_map.mp ht
      cases c with
      | oct b => exact hb a b hc
      | sub x => have := D.le _ _ (D.sub a d x ha hc); omega
  | succ n ih =>
    intro a d ha hd h1 h2
    have hi := inner_le (kd := kd) D (n + 1) a d ha hd
    have hl : (f a).length ≤ G f (n + 1 + 1) a := by rw [G_succ]; exact len_sum fun c _ => cst_two c
    rw [treeOf_succ]
    refine ⟨hk a, by rw [List.length_map]; omega, ?_, fun t ht => ?_⟩
    · show slen (kd a) (inner kd f (n + 1) a) < 256
      have := slen_mono (k := kd a) hi.1
      rcases h2 with h2 | h2
      · rw [h2] at this ⊢; simp only [slen] at this ⊢; simp at this ⊢; omega
      · have := slen_two (k := kd a) hi.2; omega
    · obtain ⟨c, hc, rfl⟩ := List.mem_map.mp ht
      cases c with
      | oct b => exact hb a b hc
      | sub x =>
        have hm : cst f (n + 1) (.sub x) ≤ G f (n + 1 + 1) a := by rw [G_succ]; exact mem_sum hc
        have hm : 3 + 2 * G f (n + 1) x ≤ G f (n + 1 + 1) a := hm
        exact ih x (d + 1) (D.sub a d x ha hc) (by omega) (by omega) (.inr (by omega))
def ChV (v : Value) : Ch → Prop
  | .oct b => ∃ a t, v = .bytes a t ∧ KBw.bInts a = b
  | .sub x => v = .ref x
theorem Paired.map_in {α β γ : Type} {F : α → β → Prop} {H : α → γ → Prop} {u : β → γ} : ∀ {l₁ : List α} {l₂ : List β}, PySem.Paired F l₁ l₂ → (∀ a b, b ∈ l₂ → F a b → H a (u b)) → PySem.Paired H l₁ (l₂.map u)
  | _, _, .nil, _ => .nil
  | _, _, .cons h t, k => .cons (k _ _ (List.mem_cons_self ..) h) (Paired.map_in t fun a b hb => k a b (List.mem_cons_of_mem _ hb))
theorem treeL_of {kd : Addr → Nat} {f : Addr → List Ch} {bx : Addr → Option Nat} {os : List (Addr × Obj)} (D : Deep bx f)
    (ho : ∀ a d, bx a = some d → ∃ t e vs, (a, listOf (.int (kd a : Int) t :: vs).toArray e) ∈ os ∧ PySem.Paired ChV vs (f a)) :
    ∀ n a d, bx a = some d → d + n = 2 → TreeL os (n + 1) (.ref a) (treeOf kd f (n + 1) a) := by
  intro n
  induction n with
  | zero =>
    intro a d ha hd
    obtain ⟨t, e, vs, hm, hp⟩ := ho a d ha
    rw [treeOf_succ]
    refine ⟨a, vs, t, e, rfl, hm, Paired.map_in hp fun v c hc hv => ?_⟩
    cases c with
    | oct b => exact hv
    | sub x => have := D.le _ _ (D.sub a d x ha hc); omega
  | succ n ih =>
    intro a d ha hd
    obtain ⟨t, e, vs, hm, hp⟩ := ho a d ha
    rw [treeOf_succ]
    refine ⟨a, vs, t, e, rfl, hm, Paired.map_in hp fun v c hc hv => ?_⟩
    cases c with
    | oct b => exact hv
    | sub x =>
      have hv : v = .ref x := hv
      subst hv
      exact ih x (d + 1) (D.sub a d x ha hc) (by omega)
end
section
open PySem PySem.W PyProof.Rows
/-- the state of the building of the tree, in plain words -/
structure Bld (pot cnt : Nat) (root : Addr) (bl : List Addr) (ds : List Nat) (f : Addr → List Ch) (kd : Addr → Nat) (bx : Addr → Option Nat) : Prop where
  nd : bl.Nodup
  hd : bl[0]? = some root
  len : ds.length = bl.length
  ats : ∀ (j : Nat) a, bl[j]? = some a → ∃ d, ds[j]? = some d ∧ bx a = some d
  mem : ∀ a d, bx a = some d → a ∈ bl
  non : ∀ a, bx a = none → f a = []
  deep : Deep bx f
  kd3 : ∀ a, kd a < 3
  k0 : kd root = 0
  d0 : bx root = some 0
  oct : ∀ a b, .oct b ∈ f a → b.length < 256 ∧ ∀ c ∈ b, 0 ≤ c ∧ c < 256
  wt : ∀ a d, bx a = some d → Wt f a 3 root ≤ 2 ^ d
  g : G f 3 root ≤ pot
  sm : ∀ a, (f a).length ≤ cnt
  few : bl.length ≤ cnt + 1

theorem Bld.start {root : Addr} : Bld 0 0 root [root] [0] (fun _ => []) (fun _ => 0) (fun a => if a = root then some 0 else none) := by
  refine ⟨by simp, rfl, rfl, ?_, ?_, fun _ _ => rfl, ⟨?_, ?_⟩, fun _ => by decide, rfl, if_pos rfl, ?_, ?_, ?_, fun _ => Nat.le_refl _, Nat.le_refl _⟩
  · intro j a h
    cases j with
    | zero => simp at h; exact ⟨0, rfl, by rw [← h, if_pos rfl]⟩
    | succ j => simp at h
  · intro a d h
    by_cases e : a = root
    · rw [e]; simp
    · rw [if_neg e] at h; cases h
  · intro a d h
    by_cases e : a = root
    · rw [if_pos e] at h; cases h; decide
    · rw [if_neg e] at h; cases h
  · intro a d x _ h; cases h
  · intro a b h; cases h
  · intro a d h
    by_cases e : a = root
    · rw [if_pos e] at h; cases h
      subst e
      rw [W_succ, if_pos rfl]; simp
    · rw [if_neg e] at h; cases h
  · rw [G_succ]; simp

theorem lay_mem {f : Addr → List Ch} {p a : Addr} {c x : Ch} (h : x ∈ lay f p c a) : x ∈ f a ∨ (a = p ∧ x = c) := by
  by_cases e : a = p
  · subst e
    rw [lay_self] at h
    rcases List.mem_append.mp h with h | h
    · exact .inl h
    · exact .inr ⟨rfl, List.mem_singleton.mp h⟩
  · rw [lay_ne e] at h; exact .inl h
theorem lay_len {f : Addr → List Ch} {p a : Addr} {c : Ch} : (lay f p c a).length ≤ (f a).length + 1 := by
  by_cases e : a = p
  · subst e; rw [lay_self]; simp
  · rw [lay_ne e]; omega
theorem pow_le4 {d : Nat} (h : d ≤ 2) : 2 ^ d ≤ 4 := by
  have : d = 0 ∨ d = 1 ∨ d = 2 := by omega
  rcases this with rfl | rfl | rfl <;> decide
theorem pow_le2 {d : Nat} (h : d < 2) : 2 ^ d ≤ 2 := by
  have : d = 0 ∨ d = 1 := by omega
  rcases this with rfl | rfl <;> decide

theorem Bld.octs {pot cnt : Nat} {root p : Addr} {bl : List Addr} {ds : List Nat} {f : Addr → List Ch} {kd : Addr → Nat} {bx : Addr → Option Nat} {d : Nat} {b : List Int} (B : Bld pot cnt root bl ds f kd bx) (hp : bx p = some d) (hb : b.length < 256 ∧ ∀ c ∈ b, 0 ≤ c ∧ c < 256) :
    Bld (pot + 4 * (2 + b.length)) (cnt + 1) root bl ds (lay f p (.oct b)) kd bx := by
  refine ⟨B.nd, B.hd, B.len, B.ats, B.mem, ?_, ⟨B.deep.le, ?_⟩, B.kd3, B.k0, B.d0, ?_, ?_, ?_, ?_, Nat.le_succ_of_le B.few⟩
  · intro a h
    have e : a ≠ p := fun e => by rw [e, hp] at h; cases h
    rw [lay_ne e]; exact B.non a h
  · intro a d' x h hx
    rcases lay_mem hx with hx | ⟨_, hx⟩
    · exact B.deep.sub a d' x h hx
    · cases hx
  · intro a b' h
    rcases lay_mem h with h | ⟨_, h⟩
    · exact B.oct a b' h
    · cases h; exact hb
  · intro a d' h
    rw [W_oct]; exact B.wt a d' h
  · rw [G_oct]
    have h1 := B.g
    have h2 := Nat.le_trans (B.wt p d hp) (pow_le4 (B.deep.le p d hp))
    have h3 : Wt f p 3 root * (2 + b.length) ≤ 4 * (2 + b.length) := Nat.mul_le_mul_right _ h2
    omega
  · intro a
    have := B.sm a
    have := lay_len (f := f) (p := p) (a := a) (c := .oct b)
    omega

theorem Bld.box {pot cnt x : Nat} {root p q : Addr} {bl : List Addr} {ds : List Nat} {f : Addr → List Ch} {kd : Addr → Nat} {bx : Addr → Option Nat} {d k : Nat} (B : Bld pot cnt root bl ds f kd bx) (hp : bx p = some d) (hd : d < 2) (hk : k < 3) (hq : q ∉ bl) :
    Bld (pot + 4 * (2 + x)) (cnt + 1) root (bl ++ [q]) (ds ++ [d + 1]) (lay f p (.sub q)) (fun a => if a = q then k else kd a) (fun a => if a = q then some (d + 1) else bx a) := by
  have hqn : bx q = none := by
    cases e : bx q with
    | none => rfl
    | some d' => exact absurd (B.mem q d' e) hq
  have hfq := B.non q hqn
  have hqp : q ≠ p := fun e => by rw [e, hp] at hqn; cases hqn
  have hrq : root ≠ q := fun e => by have := B.d0; rw [e, hqn] at this; cases this
  have hfr : ∀ a, .sub q ∉ f a := fun a h => by
    cases e : bx a with
    | none => rw [B.non a e] at h; cases h
    | some d' => have := B.deep.sub a d' q e h; rw [hqn] at this; cases this
  refine ⟨?_, ?_, ?_, ?_, ?_, ?_, ⟨?_, ?_⟩, ?_, ?_, ?_, ?_, ?_, ?_, ?_, ?_⟩
  · refine List.nodup_append.mpr ⟨B.nd, by simp, fun a ha b hb => ?_⟩
    rw [List.mem_singleton.mp hb]; exact fun e => hq (e ▸ ha)
  · rw [List.getElem?_append_left]; exact B.hd
    have := B.hd
    by_cases h : 0 < bl.length
    · exact h
    · rw [List.getElem?_eq_none (by omega)] at this; cases this
  · simp [B.len]
  · intro j a h
    by_cases hj : j < bl.length
    · rw [List.getElem?_append_left hj] at h
      obtain ⟨d', h1, h2⟩ := B.ats j a h
      refine ⟨d', ?_, ?_⟩
      · rw [List.getElem?_append_left (by rw [B.len]; exact hj)]; exact h1
      · have e : a ≠ q := fun e => by rw [e, hqn] at h2; cases h2
        rw [if_neg e]; exact h2
    · rw [List.getElem?_append_right (by omega)] at h
      have hj' : j - bl.length = 0 := by
        by_cases z : j - bl.length = 0
        · exact z
        · rw [List.getElem?_eq_none (by simp; omega)] at h; cases h
      rw [hj'] at h
      have e : q = a := Option.some.inj h
      refine ⟨d + 1, ?_, by rw [← e, if_pos rfl]⟩
      rw [List.getElem?_append_right (by rw [B.len]; omega), B.len, hj']; rfl
  · intro a d' h
    by_cases e : a = q
    · rw [e]; simp
    · rw [if_neg e] at h; exact List.mem_append_left _ (B.mem a d' h)
  · intro a h
    by_cases e : a = q
    · rw [if_pos e] at h; cases h
    · rw [if_neg e] at h
      have e' : a ≠ p := fun e => by rw [e, hp] at h; cases h
      rw [lay_ne e']; exact B.non a h
  · intro a d' h
    by_cases e : a = q
    · rw [if_pos e] at h; cases h; omega
    · rw [if_neg e] at h; exact B.deep.le a d' h
  · intro a d' y h hy
    rcases lay_mem hy with hy | ⟨ep, hy⟩
    · have e : a ≠ q := fun e => by rw [e, hfq] at hy; cases hy
      rw [if_neg e] at h
      have hy' : y ≠ q := fun e => hfr a (e ▸ hy)
      rw [if_neg hy']; exact B.deep.sub a d' y h hy
    · cases hy
      rw [ep, if_neg (Ne.symm hqp), hp] at h
      cases h
      exact if_pos rfl
  · intro a
    by_cases e : a = q
    · simp only [if_pos e]; exact hk
    · simp only [if_neg e]; exact B.kd3 a
  · show (if root = q then k else kd root) = 0
    rw [if_neg hrq]; exact B.k0
  · show (if root = q then some (d + 1) else bx root) = some 0
    rw [if_neg hrq]; exact B.d0
  · intro a b' h
    rcases lay_mem h with h | ⟨_, h⟩
    · exact B.oct a b' h
    · cases h
  · intro a d' h
    by_cases e : a = q
    · subst e
      rw [if_pos rfl] at h; cases h
      have h1 := W_new hfq hqp hfr 3 root hrq
      have h2 := B.wt p d hp
      rw [Nat.pow_succ]; omega
    · rw [if_neg e] at h
      rw [W_box hfq hqp (Ne.symm e)]; exact B.wt a d' h
  · rw [G_box hfq hqp]
    have h1 := B.g
    have h2 := Nat.le_trans (B.wt p d hp) (pow_le2 hd)
    omega
  · intro a
    have := B.sm a
    have := lay_len (f := f) (p := p) (a := a) (c := .sub q)
    omega
  · have := B.few; simp; omega
/-- the ledger's object of the box at a -/
def BoxO (kd : Addr → Nat) (f : Addr → List Ch) (a : Addr) (o : Obj) : Prop := ∃ t e vs, o = listOf (.int (kd a : Int) t :: vs).toArray e ∧ PySem.Paired ChV vs (f a)
theorem Bld.tree {pot cnt : Nat} {root : Addr} {bl : List Addr} {ds : List Nat} {f : Addr → List Ch} {kd : Addr → Nat} {bx : Addr → Option Nat} {bs : List (Addr × Obj)} (B : Bld pot cnt root bl ds f kd bx) (hbs : bs.map (·.1) = bl) (hbo : ∀ p ∈ bs, BoxO kd f p.1 p.2) (hpot : pot ≤ 189) :
    TreeL bs 3 (.ref root) (treeOf kd f 3 root) ∧ Fits 3 (treeOf kd f 3 root) := by
  constructor
  · refine treeL_of B.deep (fun a d h => ?_) 2 root 0 B.d0 rfl
    have hm := B.mem a d h
    rw [← hbs] at hm
    obtain ⟨⟨a', o⟩, hp, e⟩ := List.mem_map.mp hm
    simp only at e; subst e
    obtain ⟨t, e, vs, ho, hv⟩ := hbo _ hp
    simp only at ho
    exact ⟨t, e, vs, ho ▸ hp, hv⟩
  · have h1 : G f 3 root ≤ 189 := Nat.le_trans B.g hpot
    exact fits_of B.deep B.kd3 B.oct 2 root 0 B.d0 rfl h1 (.inl B.k0)
end
section
open PySem PySem.W PyProof.Rows PySem.Calls
/-- the potential of the first numbers -/
def potOf (ns : List Int) : Nat := (ns.map fun x => 4 * (2 + (x / 8 % 4).toNat)).sum
/-- what holds between two turns -/
def TJ (root X BX DP : Addr) (ns : List Int) (i : Nat) (m : Str → Option Value) (nw : List (Addr × Obj)) : Prop :=
  ∃ (bl : List Addr) (ds : List Nat) (f : Addr → List Ch) (kd : Addr → Nat) (bx : Addr → Option Nat) (bs : List (Addr × Obj)) (bvs dvs : List Value) (ox : Obj) (xo : Option Value) (e1 e2 : Nat),
    Bld (potOf (ns.take i)) i root bl ds f kd bx ∧ bs.map (·.1) = bl ∧ (∀ p ∈ bs, BoxO kd f p.1 p.2) ∧ bvs = bl.map Value.ref ∧ IntsAre dvs (ds.map fun (d : Nat) => (d : Int)) ∧ ox.data = .cell xo ∧
    m (Str.ofString "boxes") = some (.ref BX) ∧ m (Str.ofString "deep") = some (.ref DP) ∧
    nw = (X, ox) :: (BX, W.listOf bvs.toArray e1) :: (DP, W.listOf dvs.toArray e2) :: bs ∧ (∀ p ∈ bs, p.1 ≠ X ∧ p.1 ≠ BX ∧ p.1 ≠ DP)
theorem Paired.len2 {α β : Type} {F : α → β → Prop} : ∀ {l₁ : List α} {l₂ : List β}, PySem.Paired F l₁ l₂ → l₁.length = l₂.length
  | _, _, .nil => rfl
  | _, _, .cons _ t => by rw [List.length_cons, List.length_cons, Paired.len2 t]
theorem split_at {α : Type} {l : List α} {j : Nat} {a : α} (h : l[j]? = some a) : l = l.take j ++ a :: l.drop (j + 1) := by
  have hlt : j < l.length := by
    by_cases q : j < l.length
    · exact q
    · rw [List.getElem?_eq_none (by omega)] at h; cases h
  have h2 : l[j] = a := by rw [List.getElem?_eq_getElem hlt] at h; exact Option.some.inj h
  conv => lhs; rw [← List.take_append_drop j l, List.drop_eq_getElem_cons hlt, h2]
theorem IntsAre.back {vs : List Value} {ns : List Int} (h : IntsAre vs ns) : ∀ (j : Nat) (n : Int), ns[j]? = some n → ∃ t, vs[j]? = some (Value.int n t) := by
  intro j n hn
  have hlt : j < ns.length := by
    by_cases q : j < ns.length
    · exact q
    · rw [List.getElem?_eq_none (by omega)] at hn; cases hn
  have hlt2 : j < vs.length := by rw [h.length]; exact hlt
  obtain ⟨k, t, e, hk⟩ := IntsAre.at h j vs[j] (List.getElem?_eq_getElem hlt2)
  rw [hn] at hk
  cases hk
  exact ⟨t, by rw [List.getElem?_eq_getElem hlt2, e]⟩
theorem pick {pot cnt : Nat} {root : Addr} {bl : List Addr} {ds : List Nat} {f : Addr → List Ch} {kd : Addr → Nat} {bx : Addr → Option Nat} {bs : List (Addr × Obj)} {bvs dvs : List Value} (B : Bld pot cnt root bl ds f kd bx) (hbs : bs.map (·.1) = bl) (hbo : ∀ p ∈ bs, BoxO kd f p.1 p.2)
    (hbv : bvs = bl.map Value.ref) (hdv : IntsAre dvs (ds.map fun (d : Nat) => (d : Int))) (hc : cnt ≤ 10) (x : Int) :
    ∃ (j : Nat) (a : Addr) (d : Nat) (bs1 bs2 : List (Addr × Obj)) (t0 td : Tok) (e0 : Nat) (vs : List Value), Int.fmod (Int.fdiv x 2) (bvs.length : Int) = (j : Int) ∧ bvs[j]? = some (Value.ref a) ∧ dvs[j]? = some (Value.int (d : Int) td) ∧ bx a = some d ∧
      bs = bs1 ++ (a, W.listOf (Value.int (kd a : Int) t0 :: vs).toArray e0) :: bs2 ∧ PySem.Paired ChV vs (f a) ∧ j < 1000 ∧ bvs.length ≤ 1000 ∧ dvs.length ≤ 1000 ∧ vs.length ≤ 1000 ∧ (bvs.length : Int) ≠ 0 ∧ (0 : Int) < (bvs.length : Int) := by
  have hlen : bvs.length = bl.length := by rw [hbv, List.length_map]
  have hfew := B.few
  have hpos : 0 < bl.length := by
    have := B.hd
    by_cases h : 0 < bl.length
    · exact h
    · rw [List.getElem?_eq_none (by omega)] at this; cases this
  have hm0 : 0 ≤ Int.fmod (Int.fdiv x 2) (bvs.length : Int) := by rw [Int.fmod_eq_emod_of_nonneg _ (by omega)]; exact Int.emod_nonneg _ (by omega)
  have hm1 : Int.fmod (Int.fdiv x 2) (bvs.length : Int) < (bvs.length : Int) := by rw [Int.fmod_eq_emod_of_nonneg _ (by omega)]; exact Int.emod_lt_of_pos _ (by omega)
  obtain ⟨j, hj⟩ : ∃ j : Nat, Int.fmod (Int.fdiv x 2) (bvs.length : Int) = (j : Int) := ⟨_, (Int.toNat_of_nonneg hm0).symm⟩
  have hjl : j < bl.length := by omega
  have hja : bl[j]? = some bl[j] := List.getElem?_eq_getElem hjl
  obtain ⟨d, hd1, hd2⟩ := B.ats j _ hja
  have hbj : j < bs.length := by rw [← List.length_map (f := (·.1)), hbs]; exact hjl
  have hbs1 : bs[j].1 = bl[j] := by simp [← hbs]
  obtain ⟨t0, e0, vs, ho, hv⟩ := hbo bs[j] (List.getElem_mem hbj)
  obtain ⟨td, htd⟩ := IntsAre.back hdv j (d : Int) (by rw [List.getElem?_map, hd1]; rfl)
  rw [hbs1] at ho hv
  refine ⟨j, bl[j], d, bs.take j, bs.drop (j + 1), t0, td, e0, vs, hj, by rw [hbv, List.getElem?_map, hja]; rfl, htd, hd2, ?_, hv, by omega, by omega, ?_, ?_, by omega, by omega⟩
  · have := split_at (List.getElem?_eq_getElem hbj)
    conv => lhs; rw [this]
    rw [← ho, ← hbs1]
  · have := hdv.length; rw [List.length_map] at this; have := B.len; omega
  · rw [Paired.len2 hv]; have := B.sm bl[j]; omega
theorem news_pick {g h : Heap} {L : Addr} {p q r u y : Addr × Obj} {b1 b2 : List (Addr × Obj)} (N : News g L h (p :: q :: r :: u :: (b1 ++ y :: b2))) : News g L h (p :: q :: r :: u :: y :: (b1 ++ b2)) := fun z hz => N z (by
  simp only [List.mem_cons, List.mem_append] at hz ⊢
  rcases hz with h | h | h | h | h | h | h <;> simp [h])
theorem news_back {g h : Heap} {L : Addr} {p q r u y : Addr × Obj} {b1 b2 : List (Addr × Obj)} (N : News g L h (p :: q :: r :: u :: y :: (b1 ++ b2))) : News g L h (p :: q :: r :: u :: (b1 ++ y :: b2)) := fun z hz => N z (by
  simp only [List.mem_cons, List.mem_append] at hz ⊢
  rcases hz with h | h | h | h | h | h | h <;> simp [h])
theorem pot_next {ns : List Int} {i : Nat} {x : Int} (hx : ns[i]? = some x) : potOf (ns.take (i + 1)) = potOf (ns.take i) + 4 * (2 + (x / 8 % 4).toNat) := by
  unfold potOf
  rw [List.take_add_one, hx]; simp
theorem AllLt.mem {q : Nat} : ∀ {l : List (Addr × Obj)}, AllLt q l → ∀ p ∈ l, @LT.lt Nat _ p.1 q
  | [], _, _, h => nomatch h
  | _ :: _, x, p, h => by
    rcases List.mem_cons.mp h with rfl | h
    · exact x.1
    · exact AllLt.mem x.2 p h
section
variable {g h' : Heap} {L I X BX DP a root : Addr} {oI ox ox0 : Obj} {xo : Option Value} {s : Shared} {tk i d e0 e1 e2 e1' e2' : Nat} {m : Str → Option Value} {ns : List Int} {x : Int} {bl : List Addr} {ds : List Nat} {f : Addr → List Ch} {kd : Addr → Nat} {bx : Addr → Option Nat} {bs1 bs2 rest all : List (Addr × Obj)} {bvs dvs vs : List Value} {t0 : Tok}
theorem turn_box {q : Addr} {tq td : Tok} (BB : Bld (potOf (ns.take i)) i root bl ds f kd bx) (hbs : (bs1 ++ (a, W.listOf (Value.int (kd a : Int) t0 :: vs).toArray e0) :: bs2).map (·.1) = bl) (hbo : ∀ p ∈ bs1 ++ (a, W.listOf (Value.int (kd a : Int) t0 :: vs).toArray e0) :: bs2, BoxO kd f p.1 p.2)
    (hbv : bvs = bl.map Value.ref) (hdv : IntsAre dvs (ds.map fun (d : Nat) => (d : Int))) (hox : ox.data = .cell xo) (hoff : ∀ p ∈ bs1 ++ (a, W.listOf (Value.int (kd a : Int) t0 :: vs).toArray e0) :: bs2, p.1 ≠ X ∧ p.1 ≠ BX ∧ p.1 ≠ DP)
    (hI : ∀ p ∈ (X, ox0) :: (BX, W.listOf bvs.toArray e1) :: (DP, W.listOf dvs.toArray e2) :: (bs1 ++ (a, W.listOf (Value.int (kd a : Int) t0 :: vs).toArray e0) :: bs2), p.1 ≠ I)
    (hrest : bs1 ++ bs2 = rest) (hnd : ∀ p ∈ rest, p.1 ≠ a) (hx : ns[i]? = some x) (hxa : bx a = some d) (hpv : PySem.Paired ChV vs (f a)) (hd : (d : Int) < 2)
    (hq : (@LT.lt Nat _ I q) ∧ (@LT.lt Nat _ X q) ∧ (@LT.lt Nat _ BX q) ∧ (@LT.lt Nat _ DP q) ∧ (@LT.lt Nat _ a q) ∧ AllLt q rest)
    (F : Fr g L h' m) (N : News g L h' ((q, W.listOf #[Value.int ((x.fdiv 8).fmod 3) tq] 0) :: (I, oI) :: (X, ox) :: (BX, W.listOf (bvs ++ [Value.ref q]).toArray e1') :: (DP, W.listOf (dvs.toArray.push (Value.int ((d : Int) + 1) td)) e2') :: (a, W.listOf (Value.int (kd a : Int) t0 :: (vs ++ [Value.ref q])).toArray (e0 + 1)) :: rest))
    (hm1 : m (Str.ofString "boxes") = some (.ref BX)) (hm2 : m (Str.ofString "deep") = some (.ref DP)) :
    TurnEnd g L s I oI (TJ root X BX DP ns (i + 1)) .next { s with heap := h', toks := tk } := by
  obtain ⟨q1, q2, q3, q4, q5, q6⟩ := hq
  have hqr : ∀ p ∈ rest, p.1 ≠ q := fun p hp => Nat.ne_of_lt (AllLt.mem q6 p hp)
  have hqa : a ≠ q := Nat.ne_of_lt q5
  have hqb : q ∉ bl := by
    rw [← hbs]
    intro hm
    obtain ⟨p, hp, e⟩ := List.mem_map.mp hm
    rcases List.mem_append.mp hp with hp | hp
    · exact hqr p (hrest ▸ List.mem_append_left _ hp) e
    · rcases List.mem_cons.mp hp with rfl | hp
      · exact hqa e
      · exact hqr p (hrest ▸ List.mem_append_right _ hp) e
  obtain ⟨k, hk⟩ : ∃ k : Nat, (x.fdiv 8).fmod 3 = (k : Int) := ⟨_, (Int.toNat_of_nonneg (by rw [Int.fmod_eq_emod_of_nonneg _ (by decide)]; exact Int.emod_nonneg _ (by decide))).symm⟩
  have hk3 : k < 3 := by
    have : (x.fdiv 8).fmod 3 < 3 := by rw [Int.fmod_eq_emod_of_nonneg _ (by decide)]; exact Int.emod_lt_of_pos _ (by decide)
    omega
  rw [hk] at N
  have B' := BB.box (x := (x / 8 % 4).toNat) hxa (by omega) hk3 hqb
  rw [← pot_next hx] at B'
  have hqn : f q = [] := by
    refine BB.non q ?_
    cases e : bx q with
    | none => rfl
    | some d' => exact absurd (BB.mem q d' e) hqb
  refine TurnEnd.intro ((X, ox) :: (BX, W.listOf (bvs ++ [Value.ref q]).toArray e1') :: (DP, W.listOf (dvs ++ [Value.int ((d : Int) + 1) td]).toArray e2') :: (bs1 ++ (a, W.listOf (Value.int (kd a : Int) t0 :: (vs ++ [Value.ref q])).toArray (e0 + 1)) :: bs2 ++ [(q, W.listOf #[Value.int (k : Int) tq] 0)])) F ?_ ?_ ?_
  · rw [List.push_toArray] at N
    refine fun z hz => N z ?_
    subst hrest
    simp only [List.mem_cons, List.mem_append, List.not_mem_nil, or_false] at hz ⊢
    rcases hz with h | h | h | h | (h | h | h) | h <;> simp [h]
  · intro p hp
    rcases List.mem_cons.mp hp with rfl | hp
    · exact hI (X, ox0) mem0
    rcases List.mem_cons.mp hp with rfl | hp
    · exact hI (BX, W.listOf bvs.toArray e1) mem1
    rcases List.mem_cons.mp hp with rfl | hp
    · exact hI (DP, W.listOf dvs.toArray e2) mem2
    have up : ∀ p ∈ bs1 ++ (a, W.listOf (Value.int (kd a : Int) t0 :: vs).toArray e0) :: bs2, p.1 ≠ I := fun p hp => hI p (List.mem_cons_of_mem _ (List.mem_cons_of_mem _ (List.mem_cons_of_mem _ hp)))
    rcases List.mem_append.mp hp with hp | hp
    · rcases List.mem_append.mp hp with hp | hp
      · exact up p (List.mem_append_left _ hp)
      · rcases List.mem_cons.mp hp with rfl | hp
        · exact up (a, W.listOf (Value.int (kd a : Int) t0 :: vs).toArray e0) (List.mem_append_right _ mem0)
        · exact up p (List.mem_append_right _ (List.mem_cons_of_mem _ hp))
    · rw [List.mem_singleton.mp hp]; exact Nat.ne_of_gt q1
  · refine ⟨_, _, _, _, _, _, bvs ++ [Value.ref q], dvs ++ [Value.int ((d : Int) + 1) td], ox, xo, e1', e2', B', ?_, ?_, ?_, ?_, hox, hm1, hm2, rfl, ?_⟩
    · rw [← hbs]; simp
    · have old : ∀ p ∈ rest, BoxO kd f p.1 p.2 → BoxO (fun z => if z = q then k else kd z) (lay f a (.sub q)) p.1 p.2 := fun p hp ⟨t, e, vs, ho, hv⟩ => by
        refine ⟨t, e, vs, ?_, ?_⟩
        · simp only [if_neg (hqr p hp)]; exact ho
        · rw [lay_ne (hnd p hp)]; exact hv
      intro p hp
      rcases List.mem_append.mp hp with hp | hp
      · rcases List.mem_append.mp hp with hp | hp
        · exact old p (hrest ▸ List.mem_append_left _ hp) (hbo p (List.mem_append_left _ hp))
        · rcases List.mem_cons.mp hp with rfl | hp
          · refine ⟨t0, e0 + 1, vs ++ [Value.ref q], ?_, ?_⟩
            · simp only [if_neg hqa]
            · rw [lay_self]; exact hpv.snoc rfl
          · exact old p (hrest ▸ List.mem_append_right _ hp) (hbo p (List.mem_append_right _ (List.mem_cons_of_mem _ hp)))
      · rw [List.mem_singleton.mp hp]
        refine ⟨tq, 0, [], ?_, ?_⟩
        · simp only [if_true]
        · rw [lay_ne (Ne.symm hqa), hqn]; exact .nil
    · rw [hbv, List.map_append]; rfl
    · rw [List.map_append]
      exact hdv.append (.cons _ td .nil)
    · intro p hp
      rcases List.mem_append.mp hp with hp | hp
      · rcases List.mem_append.mp hp with hp | hp
        · exact hoff p (List.mem_append_left _ hp)
        · rcases List.mem_cons.mp hp with rfl | hp
          · exact hoff (a, W.listOf (Value.int (kd a : Int) t0 :: vs).toArray e0) (List.mem_append_right _ mem0)
          · exact hoff p (List.mem_append_right _ (List.mem_cons_of_mem _ hp))
      · rw [List.mem_singleton.mp hp]
        exact ⟨Nat.ne_of_gt q2, Nat.ne_of_gt q3, Nat.ne_of_gt q4⟩
theorem turn_oct {bb : Array UInt8} {tb : Tok} {b : List Int} (BB : Bld (potOf (ns.take i)) i root bl ds f kd bx) (hbs : (bs1 ++ (a, W.listOf (Value.int (kd a : Int) t0 :: vs).toArray e0) :: bs2).map (·.1) = bl) (hbo : ∀ p ∈ bs1 ++ (a, W.listOf (Value.int (kd a : Int) t0 :: vs).toArray e0) :: bs2, BoxO kd f p.1 p.2)
    (hbv : bvs = bl.map Value.ref) (hdv : IntsAre dvs (ds.map fun (d : Nat) => (d : Int))) (hox : ox.data = .cell xo) (hoff : ∀ p ∈ bs1 ++ (a, W.listOf (Value.int (kd a : Int) t0 :: vs).toArray e0) :: bs2, p.1 ≠ X ∧ p.1 ≠ BX ∧ p.1 ≠ DP)
    (hI : ∀ p ∈ (X, ox0) :: (BX, W.listOf bvs.toArray e1) :: (DP, W.listOf dvs.toArray e2) :: (bs1 ++ (a, W.listOf (Value.int (kd a : Int) t0 :: vs).toArray e0) :: bs2), p.1 ≠ I)
    (hrest : bs1 ++ bs2 = rest) (hnd : ∀ p ∈ rest, p.1 ≠ a) (hx : ns[i]? = some x) (hxa : bx a = some d) (hpv : PySem.Paired ChV vs (f a)) (hb : KBw.bInts bb = b) (hbl : b.length = (x / 8 % 4).toNat) (hbr : ∀ c ∈ b, 0 ≤ c ∧ c < 256)
    (F : Fr g L h' m) (N : News g L h' all) (sub : ∀ p ∈ (I, oI) :: (X, ox) :: (BX, W.listOf bvs.toArray e1') :: (DP, W.listOf dvs.toArray e2') :: (a, W.listOf (Value.int (kd a : Int) t0 :: (vs ++ [Value.bytes bb tb])).toArray (e0 + 1)) :: rest, p ∈ all)
    (hm1 : m (Str.ofString "boxes") = some (.ref BX)) (hm2 : m (Str.ofString "deep") = some (.ref DP)) :
    TurnEnd g L s I oI (TJ root X BX DP ns (i + 1)) .next { s with heap := h', toks := tk } := by
  have B' := BB.octs (b := b) hxa ⟨by rw [hbl]; omega, hbr⟩
  rw [hbl, ← pot_next hx] at B'
  refine TurnEnd.intro ((X, ox) :: (BX, W.listOf bvs.toArray e1') :: (DP, W.listOf dvs.toArray e2') :: (bs1 ++ (a, W.listOf (Value.int (kd a : Int) t0 :: (vs ++ [Value.bytes bb tb])).toArray (e0 + 1)) :: bs2)) F ?_ ?_ ?_
  · refine fun z hz => N z (sub z ?_)
    subst hrest
    simp only [List.mem_cons, List.mem_append] at hz ⊢
    rcases hz with h | h | h | h | h | h | h <;> simp [h]
  · intro p hp
    rcases List.mem_cons.mp hp with rfl | hp
    · exact hI (X, ox0) mem0
    rcases List.mem_cons.mp hp with rfl | hp
    · exact hI (BX, W.listOf bvs.toArray e1) mem1
    rcases List.mem_cons.mp hp with rfl | hp
    · exact hI (DP, W.listOf dvs.toArray e2) mem2
    have up : ∀ p ∈ bs1 ++ (a, W.listOf (Value.int (kd a : Int) t0 :: vs).toArray e0) :: bs2, p.1 ≠ I := fun p hp => hI p (List.mem_cons_of_mem _ (List.mem_cons_of_mem _ (List.mem_cons_of_mem _ hp)))
    rcases List.mem_append.mp hp with hp | hp
    · exact up p (List.mem_append_left _ hp)
    · rcases List.mem_cons.mp hp with rfl | hp
      · exact up (a, W.listOf (Value.int (kd a : Int) t0 :: vs).toArray e0) (List.mem_append_right _ mem0)
      · exact up p (List.mem_append_right _ (List.mem_cons_of_mem _ hp))
  · refine ⟨bl, ds, _, _, _, _, bvs, dvs, ox, xo, e1', e2', B', ?_, ?_, hbv, hdv, hox, hm1, hm2, rfl, ?_⟩
    · rw [← hbs]; simp
    · have old : ∀ p ∈ rest, BoxO kd f p.1 p.2 → BoxO kd (lay f a (.oct b)) p.1 p.2 := fun p hp ⟨t, e, vs, ho, hv⟩ => ⟨t, e, vs, ho, by rw [lay_ne (hnd p hp)]; exact hv⟩
      intro p hp
      rcases List.mem_append.mp hp with hp | hp
      · exact old p (hrest ▸ List.mem_append_left _ hp) (hbo p (List.mem_append_left _ hp))
      · rcases List.mem_cons.mp hp with rfl | hp
        · refine ⟨t0, e0 + 1, vs ++ [Value.bytes bb tb], rfl, ?_⟩
          rw [lay_self]; exact hpv.snoc ⟨bb, tb, rfl, hb⟩
        · exact old p (hrest ▸ List.mem_append_right _ hp) (hbo p (List.mem_append_right _ (List.mem_cons_of_mem _ hp)))
    · intro p hp
      rcases List.mem_append.mp hp with hp | hp
      · exact hoff p (List.mem_append_left _ hp)
      · rcases List.mem_cons.mp hp with rfl | hp
        · exact hoff (a, W.listOf (Value.int (kd a : Int) t0 :: vs).toArray e0) (List.mem_append_right _ mem0)
        · exact hoff p (List.mem_append_right _ (List.mem_cons_of_mem _ hp))
end
/-- the end of a test that a branch asks -/
def IfEnd (s : Shared) (P : Prop) (b : Bool) (s₂ : Shared) : Prop := (∃ tk, s₂ = { s with toks := tk }) ∧ (b = true → P)
theorem If_join {M : Model} {A : Around} {E : Value → Shared → Prop} {s : Shared} {env : Env} {test : Expr} {body orelse : List Stmt} {pos : Pos} {Q : Flow → Shared → Prop} {P : Prop}
    (ht : wpAny M A (isTrue test env (eval test env)) (IfEnd s P) E s)
    (h1 : ∀ tk, P → wpAny M A (execs body env) Q E { s with toks := tk })
    (h2 : ∀ tk, wpAny M A (execs orelse env) Q E { s with toks := tk }) : wpAny M A (exec (.If test body orelse pos) env) Q E s :=
  wpAny_If (wpAny_mono ht (fun b s₂ ⟨⟨tk, e⟩, hb⟩ => by
    subst e
    cases b with
    | true => exact h1 tk (hb rfl)
    | false => exact h2 tk) fun _ _ x => x)
end
section
open PySem PySem.W PyProof.Rows PySem.Calls

local macro_rules | `(tactic| k_all) => `(tactic| assumption)
theorem digit_is (x : Int) (k : Nat) : ((x.fdiv 32).fdiv (256 ^ ((k : Nat) : Int).toNat)).fmod 256 = x / 32 / 256 ^ k % 256 := by
  rw [Int.toNat_natCast, Int.fdiv_eq_ediv_of_nonneg x (by decide), Int.fdiv_eq_ediv_of_nonneg _ (Int.pow_nonneg (by decide)), Int.fmod_eq_emod_of_nonneg _ (by decide)]
theorem item_led {prog : Program} {w : World} {A : Around} {E Q : Value → Shared → Prop} {s : Shared} {value slice : PySem.Expr} {h₀ : Heap} {L D : Addr} {news : List (Addr × Obj)} {vs : List Value} {n j : Nat} {k : Int} {u : Tok} {v : Value} (N : News h₀ L s.heap news) (hm : (D, W.listOf vs.toArray n) ∈ news) (hk : k = (j : Int)) (hx : vs[j]? = some v) (hz : j < 1000) (h : Q v s)
    (hs : subscripted slice false (.ref D) (.int k u) = operate [.ref D, .int k u] (getItem (.ref D) (.int k u)) := by with_unfolding_all rfl) :
    wpAny (model prog w) A (subscriptTail value slice (.ref D) (.int k u)) Q E s := by
  subst hk
  exact item_litK (News.isList N hm) (by omega) (by omega) (by rw [Int.toNat_natCast]; exact hx) h hs
theorem len_led {prog : Program} {w : World} {A : Around} {E Q : Value → Shared → Prop} {s : Shared} {h₀ : Heap} {L D : Addr} {news : List (Addr × Obj)} {vs : List Value} {n : Nat} (N : News h₀ L s.heap news) (hm : (D, W.listOf vs.toArray n) ∈ news) (hz : vs.length ≤ 1000)
    (h : ∀ t k, Q (.int (vs.length : Int) t) { s with toks := k }) : wpAny (model prog w) A (call (.builtin "len") [.ref D]) Q E s := by
  refine call_len_list (News.isList N hm) (by simp; omega) ?_
  have := h (s.toks + 1) (s.toks + 1 + 1)
  simpa using this
theorem tree_spec {w : World} {loose : List Str} {mean : ExcName → Option Value} {mg mb : Str → Option Value} {A : Around} {s : Shared} {Q E : Value → Shared → Prop} {ax : Addr} {its : Array Value} {ns : List Int}
    (O : Ok w loose mean mg mb s.heap) (hdp : A.depth < recursionLimit) (hh : A.handled = none) (hl : s.heap.IsList ax its) (hi : IntsAre its.toList ns) (hn : ns.length ≤ 10) (hpot : potOf ns ≤ 189)
    (ret : ∀ x os t h' tk, TreeL os 3 (.ref x) t → Fits 3 t → (∀ p ∈ os, h'.get? p.1 = some p.2 ∧ s.heap.get? p.1 = none) → (∀ b o, s.heap.get? b = some o → h'.get? b = some o) → Q (.ref x) { s with heap := h', toks := tk }) :
    wpAny (model PR w) A (call (.ref 93) [.ref ax]) Q E s := by
  w_top off
  k_with_none
  (k_with "eval ListComp" => (k_dflt (refine LCg.ListComp_U (F₀ := by k_asm) (by with_unfolding_all rfl) (by decide) (by rfl) (by decide) (by rfl) ?_)))
  (k_with "assign Tuple" => ((with_reducible show wpAny _ _ (assign (Expr.Tuple _ _ _) _ (Value.ref _)) _ _ _); k_dflt (refine' unpackN_ ?k1 ?k2 ?k3 ?k4 ?k5 ?k6 ?_; (case k1 => k_asm); (case k2 => k_asm); (case k3 => kun_tup); (case k4 => assumption); (case k5 => exact rfl); (case k6 => exact rfl); k_whole); intro _ _ _; (try k_sweep)))
  (k_with "unpackItems ref" => (k_dflt (refine' unpackItemsN_ ?k1 ?k2 ?k3 ?k4 ?k5 ?_; (case k1 => k_asm); (case k2 => k_asm); (case k3 => kun_tup); (case k4 => assumption); (case k5 => exact rfl); k_whole); intro _ _ _; (try k_sweep)))
  (k_with "binaryOp FloorDiv int int" => ((with_reducible show wpAny _ _ (binaryOp _ _ (Value.int (256 ^ _) _)) _ _ _); refine div256 (by omega) ?_))
  (k_with "call builtin:len" => ((with_reducible show wpAny _ _ (call (Value.builtin "len") [Value.ref _]) _ _ _); (refine len_led (by k_asm) (by k_mem) (by assumption) ?_); intro _ _))
  (k_with "subscriptTail" => ((with_reducible show wpAny _ _ (subscriptTail _ _ (Value.ref _) (Value.int _ _)) _ _ _); (refine item_led (by k_asm) (by k_mem) (by assumption) (by assumption) (by assumption) ?_ (by with_unfolding_all rfl))))
  (k_with "exec If" => (refine Stop.of ?_))
  (have kfill0 : (Mine.hd.heap_39 = Mine.hd.heap_39) ∧ PySem.Challenge.rw_mr0056_01 = PySem.Challenge.rw_mr0056_01 := by (k_fill; exact ⟨rfl, rfl⟩)); clear kfill0
  obtain ⟨X, T, C⟩ := O
  refine wpAny_call ?_
  refine' enterKC (muts := []) (binds := [(Str.ofString "numbers", .ref ax)]) (p := topProg) X T.nolimit (fun _ hp => nomatch hp) ?k6 ?k7 ?k8 ?k9 ?kB ?kD ?_ ?c2 ?c3 ?c4
  (case k6 => k_is)
  (case k7 => k_is)
  (case k8 => k_room)
  (case k9 => exact BindsTo.of_eq rfl)
  (case kB => exact rfl)
  (case kD => decide +kernel)
  (case c2 => exact rfl)
  (case c3 => exact rfl)
  (case c4 => exact rfl)
  intro g L' h₁ tk cells hk hk2 hmn hsz hL F N Y l1
  k_fold
  have hk' : ∀ b o, s.heap.get? b = some o → g.get? b = some o := fun b o e => hk b o e (fun p hp => nomatch hp)
  have hlg : g.IsList ax its := let ⟨o, e, r⟩ := hl; ⟨o, hk' _ _ e, r⟩
  replace X := X.keeps hk'
  replace T := T.keeps hk'
  replace C := C.keeps hk'
  clear l1
  k_cells Y
  simp only [List.cons_append, List.nil_append] at N
  k_steps
  rename Fr _ _ _ _ => F
  rename News _ _ _ _ => N
  refine For_cell (h₀ := g) (L := L') ?_
  k_steps
  rename_i tk0 ox0 dx0 root ha la BX hb lb DP hc lc TU hd1 le h1' h2' h3'
  refine ⟨ax, its, _, [(L' + 1, ox0), (BX, W.listOf #[.ref root] 0), (DP, W.listOf #[.int 0 (tk0 + 1)] 0), (root, W.listOf #[.int 0 tk0] 0)], TJ root (L' + 1) BX DP ns, rfl, hh, hlg, F, fun p hp => N p ?_, ?_, ?_, ?_⟩
  · simp only [List.mem_cons, List.not_mem_nil, or_false] at hp ⊢
    rcases hp with h | h | h | h <;> simp [h]
  · refine ⟨[root], [0], _, _, _, [(root, _)], [.ref root], [.int 0 _], ox0, _, 0, 0, Bld.start, rfl, ?_, rfl, .cons 0 _ .nil, dx0, rfl, rfl, rfl, ?_⟩
    · intro p hp
      rw [List.mem_singleton.mp hp]
      exact ⟨_, _, [], rfl, .nil⟩
    · intro p hp
      rw [List.mem_singleton.mp hp]
      refine ⟨neN ?_, neN ?_, neN ?_⟩ <;> (simp only; omega)
  · clear F N
    rintro i v m₁ nw h tk I oI hv ⟨bl, ds, f, kd, bx, bs, bvs, dvs, ox, xo, e1, e2, BB, hbs, hbo, hbv, hdv, hox, em1, em2, rfl, hoff⟩ hI F N
    obtain ⟨x, tx, rfl, hx⟩ := IntsAre.at hi i v (by simpa using hv)
    have F := Fr_say (x := Str.ofString "boxes") F em1
    have F := Fr_say (x := Str.ofString "deep") F (v := .ref DP) (by rw [if_neg (by decide)]; exact em2)
    clear em1 em2
    have hi10 : i ≤ 10 := by
      have : i < ns.length := by
        by_cases q : i < ns.length
        · exact q
        · rw [List.getElem?_eq_none (by omega)] at hx; cases hx
      omega
    obtain ⟨j, a, d, bs1, bs2, t0, td, e0, vs, hj, hbj, hdj, hxa, rfl, hpv, hj1, hbl, hdl, hvl, hb0, hbp⟩ := pick BB hbs hbo hbv hdv hi10 x
    have N := news_pick N
    have hI1 : @Ne Nat (L' + 1) I := hI (L' + 1, ox) (List.mem_cons_self ..)
    have hI2 : @Ne Nat BX I := hI (BX, _) mem1
    have hI3 : @Ne Nat DP I := hI (DP, _) mem2
    have hI4 : @Ne Nat a I := hI (a, _) (List.mem_cons_of_mem _ (List.mem_cons_of_mem _ (List.mem_cons_of_mem _ (List.mem_append_right _ mem0))))
    obtain ⟨ha1, ha2, ha3⟩ : (@Ne Nat a (L' + 1)) ∧ (@Ne Nat a BX) ∧ (@Ne Nat a DP) := hoff (a, _) (List.mem_append_right _ mem0)
    have hnd : ∀ p ∈ bs1 ++ bs2, p.1 ≠ a := by
      have := BB.nd
      rw [← hbs, List.map_append, List.map_cons] at this
      intro p hp e
      have h2 := List.nodup_append.mp this
      rcases List.mem_append.mp hp with hp | hp
      · exact h2.2.2 _ (List.mem_map_of_mem hp) _ (List.mem_cons_self ..) e
      · exact (List.nodup_cons.mp h2.2.1).1 (List.mem_map.mpr ⟨p, hp, e⟩)
    have hr1 : ∀ p ∈ bs1 ++ bs2, p.1 ≠ L' + 1 := fun p hp => (hoff p (by rcases List.mem_append.mp hp with h | h <;> simp [h])).1
    have hr2 : ∀ p ∈ bs1 ++ bs2, p.1 ≠ BX := fun p hp => (hoff p (by rcases List.mem_append.mp hp with h | h <;> simp [h])).2.1
    have hr3 : ∀ p ∈ bs1 ++ bs2, p.1 ≠ DP := fun p hp => (hoff p (by rcases List.mem_append.mp hp with h | h <;> simp [h])).2.2
    have hr4 : ∀ p ∈ bs1 ++ bs2, p.1 ≠ I := fun p hp => hI p (by rcases List.mem_append.mp hp with h | h <;> simp [h])
    generalize hrest : bs1 ++ bs2 = rest at *
    k_steps
    unfold Stop
    rename Fr _ _ _ _ => F
    rename News _ _ _ _ => N
    refine If_join (P := (d : Int) < 2) ?_ ?_ ?_
    · k_steps
      all_goals first | exact ⟨⟨_, rfl⟩, fun _ => by assumption⟩ | exact ⟨⟨_, rfl⟩, fun h => nomatch h⟩
    · intro tk9 hd2
      k_steps
      refine turn_box BB hbs hbo hbv hdv (by assumption) hoff hI hrest hnd hx hxa hpv hd2 (by assumption) (by assumption) (by assumption) rfl rfl
    · intro tk9
      k_steps
      have hM : (x.fdiv 8).fmod 4 = (((x / 8 % 4).toNat : Nat) : Int) := by
        rw [Int.fdiv_eq_ediv_of_nonneg _ (by decide), Int.fmod_eq_emod_of_nonneg _ (by decide)]; omega
      rename IsRange _ _ _ _ _ _ _ _ => hran
      rename Fr _ _ _ _ => F
      rename News _ _ _ _ => N
      rw [hM] at hran
      clear hM
      have hn4 : (x / 8 % 4).toNat ≤ 3 := by omega
      generalize hn5 : (x / 8 % 4).toNat = n4 at *
      refine LCg.CompSrc.range hh F N hran ?_ (n := n4) ?_ (by rw [sizeLine_eq]; omega) ?_
      · exact small_one (by decide) (by decide) (by omega) (by omega)
      · rw [rangeSize_nat]; omega
      intro g'
      refine ints_rest (ks := (List.range n4).map fun k => x / 32 / 256 ^ k % 256) (by simp) ?_ ?_
      · intro k c tc I2 oI2 C2 oC D2 m₂ ys2 h2 tk2 E' hc hkn hC hx2 F N off ne
        have off0 := off
        simp only [LCg.Off3] at off
        obtain ⟨⟨of1, of2, of3⟩, ⟨of4, of5, of6⟩, ⟨of7, of8, of9⟩, ⟨of10, of11, of12⟩, ⟨of13, of14, of15⟩, of16⟩ := off
        obtain ⟨ne1, ne2, ne3⟩ := ne
        k_steps
        refine LCg.CompEnd.intro (by assumption) (by assumption) _ (fun p hp => hp) off0 ?_ ⟨rfl, _, congrArg (fun z => Value.int z _) ?_⟩
        · exact trivial
        · rw [List.getElem?_map, List.getElem?_range hkn] at hc
          exact (digit_is x k).trans (Option.some.inj hc)
      · intro ys2 hys2
        k_steps
        have hrg : ∀ c ∈ (List.range n4).map (fun k => x / 32 / 256 ^ k % 256), 0 ≤ c ∧ c < 256 := by
          intro c hc
          obtain ⟨k, _, rfl⟩ := List.mem_map.mp hc
          exact ⟨Int.emod_nonneg _ (by decide), Int.emod_lt_of_pos _ (by decide)⟩
        refine make_arr (its := ys2.toArray) (by assumption) (by assumption) hh (by k_mem) hys2 hrg (by simp; omega) ?_
        intro h' t' k' F' N' hin
        k_steps
        rename News _ _ _ _ => N
        rw [List.push_toArray, List.cons_append] at N
        refine turn_oct BB hbs hbo hbv hdv (by assumption) hoff hI hrest hnd hx hxa hpv hin (by rw [List.length_map, List.length_range, hn5]) hrg (by assumption) N (fun p hp => List.mem_cons_of_mem _ hp) rfl rfl
  · rintro m₁ nw h tk ⟨bl, ds, f, kd, bx, bs, bvs, dvs, ox, xo, e1, e2, BB, hbs, hbo, hbv, hdv, hox, em1, em2, rfl, hoff⟩ F N
    have F := Fr_say (x := Str.ofString "boxes") F em1
    have hsz2 : its.size = ns.length := by have := hi.length; simpa using this
    rw [hsz2, List.take_length] at BB
    obtain ⟨ht, hf⟩ := BB.tree hbs hbo hpot
    have h00 : (0 : Int) = ((0 : Nat) : Int) := rfl
    have h01 : bvs[0]? = some (.ref root) := by rw [hbv, List.getElem?_map, BB.hd]; rfl
    have h02 : (0 : Nat) < 1000 := by decide
    k_steps
    refine ret root bs _ _ _ ht hf (fun p hp => ?_) (fun b o e => Fr.keep (by assumption) b o (hk' b o e))
    have := (by assumption : News _ _ _ _) p (List.mem_cons_of_mem _ (List.mem_cons_of_mem _ (List.mem_cons_of_mem _ hp)))
    refine ⟨this.1, ?_⟩
    cases q : s.heap.get? p.1 with
    | none => rfl
    | some o => have h2 := hk' _ _ q; rw [this.2.2] at h2; cases h2
end
section
open PySem PySem.W PyProof.Rows PySem.Calls
open SeqAt
theorem ints_inj {a b : Array UInt8} (h : KBw.bInts a = KBw.bInts b) : a = b := by
  apply Array.toList_inj.mp
  have h : a.toList.map (fun x : UInt8 => (x.toNat : Int)) = b.toList.map (fun x : UInt8 => (x.toNat : Int)) := h
  generalize a.toList = l at h
  generalize b.toList = r at h
  induction l generalizing r with
  | nil => cases r with
    | nil => rfl
    | cons y r => simp at h
  | cons x l ih => cases r with
    | nil => simp at h
    | cons y r =>
      rw [List.map_cons, List.map_cons, List.cons.injEq] at h
      rw [ih _ h.2, UInt8.toNat.inj (Int.ofNat.inj h.1)]
theorem all_true {α : Type} (l : List α) : (l.all fun _ => true) = true := by
  induction l with
  | nil => rfl
  | cons _ _ ih => rw [List.all_cons, ih]; rfl
theorem bytes_eqAt {A : Around} {s : Shared} {b c : Array UInt8} {t u : Tok} (h : KBw.bInts b = KBw.bInts c) : EqAt A s (.bytes b t) (.bytes c u) true := by
  have e := ints_inj h
  subst e
  intro prog w E Q hq
  unfold eqBool
  refine wpAny_holding ?_
  refine wpAny_ite_split (fun hab => ?_) (fun _ => ?_)
  · exact wpAny_bind (wpAny_rule (wpAny_pure hq))
  · refine wpAny_bind (richCompare_gives (op := .Eq) (T := "bytes") rfl rfl FB.slot_bytes_eq FB.entry_bytes_eq (FB.args_bytes_eq_2 _ _) (gives_bytes_eq b b t u) (fun x => nomatch x) (wpAny_truthy_bool ?_))
    rw [beq_self_eq_true]; exact hq
theorem Paired.both {α β : Type} {F G : α → β → Prop} : ∀ {l l' : List α} {r : List β}, PySem.Paired F l r → PySem.Paired G l' r → ∀ (j : Nat) (h1 : j < l.length) (h2 : j < l'.length), ∃ b, F l[j] b ∧ G l'[j] b
  | _, _, _, .nil, .nil, j, h1, _ => absurd h1 (Nat.not_lt_zero _)
  | _, _, _, .cons hf t, .cons hg t', 0, _, _ => ⟨_, hf, hg⟩
  | _, _, _, .cons hf t, .cons hg t', j + 1, h1, h2 => Paired.both t t' j (Nat.lt_of_succ_lt_succ h1) (Nat.lt_of_succ_lt_succ h2)
theorem trees_eqAt {p q : Addr → Prop} : ∀ (n : Nat) (A : Around) (s : Shared) (v v' : Value) (t : Tree), TreeAt p s.heap n v t → TreeAt q s.heap n v' t → A.units + n < cLine → EqAt A s v v' true
  | n, A, s, v, v', .leaf b, h1, h2, hu => by
    obtain ⟨a, ta, rfl, ha⟩ := TreeAt.leaf_iff.mp h1
    obtain ⟨c, tc, rfl, hc⟩ := TreeAt.leaf_iff.mp h2
    exact bytes_eqAt (ha.trans hc.symm)
  | 0, _, _, _, _, .box _ _, h1, _, _ => h1.elim
  | n + 1, A, s, v, v', .box k ts, h1, h2, hu => by
    obtain ⟨x, vs, tx, e, rfl, _, ho, hp⟩ := h1
    obtain ⟨y, ws, ty, e', rfl, _, ho', hp'⟩ := h2
    by_cases hxy : x = y
    · subst hxy; exact EqAt.same _
    refine EqAt.of_refs hxy ?_
    have hl : s.heap.IsList x (Value.int (k : Int) tx :: vs).toArray := ⟨_, ho, rfl, _, rfl⟩
    have hl' : s.heap.IsList y (Value.int (k : Int) ty :: ws).toArray := ⟨_, ho', rfl, _, rfl⟩
    have hlen : vs.length = ws.length := by rw [hp.length, hp'.length]
    have := RcAt.lists (A := A) (s := s) (e := fun _ => true) hl hl' (by simp [hlen]) (by omega) (fun j j1 j2 => ?_)
    · rwa [all_true] at this
    · cases j with
      | zero =>
        have := EqAt.int_int (A := A.in1) (s := s) (k : Int) tx (k : Int) ty
        rw [beq_self_eq_true] at this
        simpa using this
      | succ j =>
        have j1 : j < vs.length := by simpa using j1
        have j2 : j < ws.length := by simpa using j2
        obtain ⟨t', g1, g2⟩ := Paired.both hp hp' j j1 j2
        have := trees_eqAt n A.in1 s _ _ t' g1 g2 (by show A.units + 1 + n < cLine; omega)
        simpa using this
theorem told_eq {prog : Program} {w : World} {A : Around} {E Q : Value → Shared → Prop} {s : Shared} {p q : Addr → Prop} {x y : Addr} {v v' : Value} {b c : Array UInt8} {tb tc : Tok} {n : Nat} {t : Tree} {e e' : Nat}
    (hx : s.heap.get? x = some (W.listOf #[v, .bytes b tb] e)) (hy : s.heap.get? y = some (W.listOf #[v', .bytes c tc] e')) (h1 : TreeAt p s.heap n v t) (h2 : TreeAt q s.heap n v' t) (hb : KBw.bInts b = KBw.bInts c) (hu : A.units + n + 1 < cLine)
    (h : Q (.bool true) s) : wpAny (model prog w) A (compareOp .Eq (.ref x) (.ref y)) Q E s := by
  have hl : s.heap.IsList x #[v, .bytes b tb] := ⟨_, hx, rfl, _, rfl⟩
  have hl' : s.heap.IsList y #[v', .bytes c tc] := ⟨_, hy, rfl, _, rfl⟩
  have := RcAt.lists (A := A) (s := s) (e := fun _ => true) hl hl' rfl (by omega) (fun j j1 j2 => ?_) prog w E Q (by rw [all_true]; exact h)
  · exact this
  · match j, j1 with
    | 0, _ => exact trees_eqAt n A.in1 s v v' t h1 h2 (by show A.units + 1 + n < cLine; omega)
    | 1, _ => exact bytes_eqAt hb
end
section
open PySem PySem.W PyProof.Rows PySem.Calls



theorem closed_leaf {w : World} {loose : List Str} {mean : ExcName → Option Value} {mg mb : Str → Option Value} {A : Around} {s : Shared} {Q E : Value → Shared → Prop} {b : Array UInt8} {t : Tok} {ks : List Int}
    (O : Ok w loose mean mg mb s.heap) (hdp : A.depth < recursionLimit) (hh : A.handled = none) (hb : KBw.bInts b = ks) (hks : ks.length < 256)
    (ret : ∀ bb t' h' tk, KBw.bInts bb = 0 :: (ks.length : Int) :: ks → (∀ b o, s.heap.get? b = some o → h'.get? b = some o) → Q (.bytes bb t') { s with heap := h', toks := tk }) :
    wpAny (model PR w) A (call (.ref 98) [.bytes b t]) Q E s := by
  w_top off
  k_with_none
  (k_with "getMethod bytes" => (first
  | (with_reducible refine KBd.method_of _ (typeIs_bytes _ _ _) slot_bytes_translate type_bytes_translate KBd.noRef ?_)
  | (with_reducible refine KBd.method_of _ (typeIs_bytes _ _ _) slot_bytes_upper type_bytes_upper KBd.noRef ?_)
  | (with_reducible refine KBd.method_of _ (typeIs_bytes _ _ _) slot_bytes_join type_bytes_join KBd.noRef ?_)
  | (with_reducible refine KBd.method_of _ (typeIs_bytes _ _ _) slot_bytes_find type_bytes_find KBd.noRef ?_)
  | (with_reducible refine KBd.method_of _ (typeIs_bytes _ _ _) FB.slot_bytes_hex FB.type_bytes_hex KBd.noRef ?_)))
  (k_with "call type:bytes" => ((with_reducible show wpAny _ _ (call (Value.type "bytes") [Value.ref _]) _ _ _); (refine make_arr (by k_asm) (by k_asm) (by assumption) (by k_mem) (by repeat constructor) (by intro n hn; simp only [List.mem_cons, List.not_mem_nil, or_false] at hn; omega) (by simp only [List.length_cons, List.length_nil]; omega) ?_); intro h' t' k' F' N' hin'; (try k_sweep)))
  (k_with "call type:type" => ((with_reducible show wpAny _ _ (call (Value.type "type") [Value.bytes _ _]) _ _ _); refine call_type_of (typeIs_bytes _ _ _) (by decide +kernel) ?_))
  (k_with "compareOp Is" => ((with_reducible show wpAny _ _ (compareOp CmpOp.Is (Value.type _) (Value.type _)) _ _ _); first | refine wpAny_is_self (by rfl) ?_ | refine wpAny_is_other (by rfl) (by intro x; exact absurd (Value.type.inj x) (by decide)) ?_))
  (have kfill0 : (Mine.hd.heap_39 = Mine.hd.heap_39) ∧ PySem.Challenge.rw_mr0056_01 = PySem.Challenge.rw_mr0056_01 := by (k_fill; exact ⟨rfl, rfl⟩)); clear kfill0
  obtain ⟨X, T, C⟩ := O
  refine wpAny_call ?_
  refine' enterK (binds := [(Str.ofString "thing", .bytes b t)]) X T C ?k6 ?k7 ?k8 ?k9 ?kB ?_ ?c5 ?c2 ?c3 ?c4
  (case k6 => k_is)
  (case k7 => k_is)
  (case k8 => k_room)
  (case k9 => first | exact BindsTo.of_eq rfl | exact binds_K (by k_in) rfl (by k_is) rfl rfl rfl)
  (case c5 => decide)
  (case kB => exact locs rfl)
  (case c2 => exact rfl)
  (case c3 => exact rfl)
  (case c4 => exact rfl)
  clear X T C
  intro g L' h₁ hk hsz X T C F N
  simp only [List.reverse_cons, List.reverse_nil, List.nil_append, List.cons_append] at F
  k_fold
  k_steps
  exact ret _ _ _ _ (by assumption) (fun b o e => Fr.keep (by assumption) b o (hk b o e))

theorem typeIs_list {s : Shared} {x : Addr} {its : Array Value} {e : Nat} (h : s.heap.get? x = some (listOf its e)) : s.TypeIs (.ref x) "list" := ⟨_, h, rfl⟩
theorem get_of_fr {g h : Heap} {L x : Addr} {m : Str → Option Value} {o : Obj} (F : Fr g L h m) (e : g.get? x = some o) : h.get? x = some o := F.keep _ _ e

theorem pick1 (a : Value) (vs : List Value) : (slicePick (a :: vs).toArray (some 1) none none).toList = vs := by
  rw [show (some (1 : Int)) = some ((1 : Nat) : Int) from rfl, slicePick_from _ 1 (by simp)]; simp


theorem len_cons {prog : Program} {w : World} {A : Around} {E Q : Value → Shared → Prop} {s : Shared} {g : Heap} {L x : Addr} {m : Str → Option Value} {a : Value} {vs : List Value} (F : Fr g L s.heap m) (hl : g.IsList x (a :: vs).toArray) (hz : vs.length < 256)
    (h : ∀ t k, Q (.int ((vs.length : Int) + 1) t) { s with toks := k }) : wpAny (model prog w) A (call (.builtin "len") [.ref x]) Q E s := by
  refine call_len_list (Heap.IsList.at hl (fun o e => F.keep _ o e)) (by simp; omega) ?_
  have := h (s.toks + 1) (s.toks + 1 + 1)
  simpa using this
theorem closed_box {w : World} {loose : List Str} {mean : ExcName → Option Value} {mg mb : Str → Option Value} {A : Around} {s : Shared} {Q E : Value → Shared → Prop} {x : Addr} {vs : List Value} {t : Tok} {e : Nat} {k : Nat} {n : Nat} {ts : List Tree} {p : Addr → Prop}
    (O : Ok w loose mean mg mb s.heap) (hdp : A.depth + n + 6 < recursionLimit) (hh : A.handled = none)
    (hx : s.heap.get? x = some (listOf (.int (k : Int) t :: vs).toArray e)) (hv : PySem.Paired (TreeAt p s.heap n) vs ts) (hf : Fits (n + 1) (.box k ts))
    (IH : ∀ (A : Around) (s' : Shared) (v : Value) (t : Tree) (Q E : Value → Shared → Prop), Ok w loose mean mg mb s'.heap → A.depth + n + 5 < recursionLimit → A.handled = none → TreeAt (fun _ => True) s'.heap n v t → Fits n t →
      (∀ bb t' h' tk, Writes n t (KBw.bInts bb) → (∀ b o, s'.heap.get? b = some o → h'.get? b = some o) → Q (.bytes bb t') { s' with heap := h', toks := tk }) → wpAny (model PR w) A (call (.ref 98) [v]) Q E s')
    (ret : ∀ bb t' h' tk, Writes (n + 1) (.box k ts) (KBw.bInts bb) → (∀ b o, s.heap.get? b = some o → h'.get? b = some o) → Q (.bytes bb t') { s with heap := h', toks := tk }) :
    wpAny (model PR w) A (call (.ref 98) [.ref x]) Q E s := by
  w_top off
  k_with_none
  (k_with "getMethod bytes" => (first
  | (with_reducible refine KBd.method_of _ (typeIs_bytes _ _ _) slot_bytes_translate type_bytes_translate KBd.noRef ?_)
  | (with_reducible refine KBd.method_of _ (typeIs_bytes _ _ _) slot_bytes_upper type_bytes_upper KBd.noRef ?_)
  | (with_reducible refine KBd.method_of _ (typeIs_bytes _ _ _) slot_bytes_join type_bytes_join KBd.noRef ?_)
  | (with_reducible refine KBd.method_of _ (typeIs_bytes _ _ _) slot_bytes_find type_bytes_find KBd.noRef ?_)
  | (with_reducible refine KBd.method_of _ (typeIs_bytes _ _ _) FB.slot_bytes_hex FB.type_bytes_hex KBd.noRef ?_)))
  (k_with "call type:bytes" => ((with_reducible show wpAny _ _ (call (Value.type "bytes") [Value.ref _]) _ _ _); (refine make_arr (by k_asm) (by k_asm) (by assumption) (by k_mem) (by repeat constructor) (by intro n hn; simp only [List.mem_cons, List.not_mem_nil, or_false] at hn; omega) (by simp only [List.length_cons, List.length_nil]; omega) ?_); intro h' t' k' F' N' hin'; (try k_sweep)))
  (k_with "call type:type" => ((with_reducible show wpAny _ _ (call (Value.type "type") [Value.bytes _ _]) _ _ _); refine call_type_of (typeIs_bytes _ _ _) (by decide +kernel) ?_))
  (k_with "compareOp Is" => ((with_reducible show wpAny _ _ (compareOp CmpOp.Is (Value.type _) (Value.type _)) _ _ _); first | refine wpAny_is_self (by rfl) ?_ | refine wpAny_is_other (by rfl) (by intro x; exact absurd (Value.type.inj x) (by decide)) ?_))
  (k_with "call type:type" => ((with_reducible show wpAny _ _ (call (Value.type "type") [Value.ref _]) _ _ _); refine call_type_of (typeIs_list (get_of_fr (by k_asm) (by assumption))) (by decide +kernel) ?_))
  (k_with "subscriptTail Name Slice ref ref" => (refine Stop.of ?_))
  (k_with "eval ListComp" => (k_dflt (refine LCg.ListComp_U (F₀ := by k_asm) (by with_unfolding_all rfl) (by decide) (by rfl) (by decide) (by rfl) ?_)))
  (k_with "call ref" => ((with_reducible show wpAny _ _ (call (Value.ref 60) _ _) _ _ _); (refine b64_spec (Ok.keeps ⟨by k_asm, by k_asm, by k_asm⟩ (Fr.keep (by k_asm))) (by k_room) (by assumption) (by assumption) (by assumption) ?_); intro bb' t' h' tk' en' el' hk'; (generalize hgs' : KBw.bInts bb' = sg' at en' el'); (have F' := Fr.keeps (by k_asm) hk'); (have N' := News.grown (by k_asm) hk'); clear hk'; (try k_sweep)))
  (k_with "call ref" => ((with_reducible show wpAny _ _ (call (Value.ref 67) _ _) _ _ _); (refine url_spec (Ok.keeps ⟨by k_asm, by k_asm, by k_asm⟩ (Fr.keep (by k_asm))) (by k_room) (by assumption) (by assumption) (by assumption) ?_); intro bb' t' h' tk' en' el' hk'; (generalize hgs' : KBw.bInts bb' = sg' at en' el'); (have F' := Fr.keeps (by k_asm) hk'); (have N' := News.grown (by k_asm) hk'); clear hk'; (try k_sweep)))
  (k_with "call ref" => ((with_reducible show wpAny _ _ (call (Value.ref 74) _ _) _ _ _); (refine b16_spec (Ok.keeps ⟨by k_asm, by k_asm, by k_asm⟩ (Fr.keep (by k_asm))) (by k_room) (by assumption) (by assumption) (by assumption) ?_); intro bb' t' h' tk' en' el' hk'; (generalize hgs' : KBw.bInts bb' = sg' at en' el'); (have F' := Fr.keeps (by k_asm) hk'); (have N' := News.grown (by k_asm) hk'); clear hk'; (try k_sweep)))
  (k_with "call builtin:len" => ((with_reducible show wpAny _ _ (call (Value.builtin "len") [Value.ref _]) _ _ _); (refine len_cons (by k_asm) (by assumption) (by assumption) ?_); intro _ _))
  (have kfill0 : (Mine.hd.heap_39 = Mine.hd.heap_39) ∧ PySem.Challenge.rw_mr0056_01 = PySem.Challenge.rw_mr0056_01 := by (k_fill; exact ⟨rfl, rfl⟩)); clear kfill0
  obtain ⟨X, T, C⟩ := O
  have hf' : k < 3 ∧ ts.length < 256 ∧ slen k ((ts.map (wlen n)).sum) < 256 ∧ ∀ t ∈ ts, Fits n t := hf
  obtain ⟨hk3, hlen, hsl, hfs⟩ := hf'
  clear hf
  have hvs : vs.length < 256 := by rw [hv.length]; exact hlen
  refine wpAny_call ?_
  refine' enterK (binds := [(Str.ofString "thing", .ref x)]) X T C ?k6 ?k7 ?k8 ?k9 ?kB ?_ ?c5 ?c2 ?c3 ?c4
  (case k6 => k_is)
  (case k7 => k_is)
  (case k8 => k_room)
  (case k9 => first | exact BindsTo.of_eq rfl | exact binds_K (by k_in) rfl (by k_is) rfl rfl rfl)
  (case c5 => decide)
  (case kB => exact locs rfl)
  (case c2 => exact rfl)
  (case c3 => exact rfl)
  (case c4 => exact rfl)
  clear X T C
  intro g L' h₁ hk hsz X T C F N
  simp only [List.reverse_cons, List.reverse_nil, List.nil_append, List.cons_append] at F
  k_fold
  have hx' := hk _ _ hx
  have hli : g.IsList x (.int (k : Int) t :: vs).toArray := ⟨_, hx', rfl, _, rfl⟩
  k_steps
  unfold Stop
  refine' kmk_slice_lit ?zqF ?zqN ?zql ?zqp ?zqq (pick1 (.int (k : Int) t) vs) ?_ ?zqs ?zqt ?zqz
  (case zqF => k_asm)
  (case zqN => k_asm)
  (case zql => exact Heap.IsList.at hli (fun o e => Fr.keep (by k_asm) _ o e))
  (case zqp => kmk_part)
  (case zqq => kmk_part)
  (case zqs => with_unfolding_all rfl)
  (case zqt => kmk_pure)
  (case zqz => size_fits)
  intro D h2 F2 N2 l2
  k_lt l2
  k_steps
  rename Fr _ _ _ _ => F
  rename News _ _ _ _ => N
  refine LCg.CompSrc.ledger hh F N (by k_mem) (by size_fits) ?_
  intro g'
  refine compRest_ind (fun i ys news => news = [(D, listOf vs.toArray 0)] ∧ ∃ parts : List (Array UInt8), PySem.Paired (fun (y : Value) p => ∃ t, y = Value.bytes p t) ys parts ∧ PySem.Paired (fun t (p : Array UInt8) => Writes n t (KBw.bInts p)) (ts.take i) parts) vs.toArray.size ?_ ?_ _ 0 [] _ (by omega) ⟨rfl, [], .nil, by simpa using PySem.Paired.nil⟩
  · rintro i ys news v I oI Cc oC D2 m₂ h tk E' hi ⟨rfl, parts, hp1, hp2⟩ hP hC hm F N off ne
    clear l2
    simp only [LCg.Off3, and_true] at off
    k_steps
    have hvi : vs[i]? = some v := by simpa using hP
    obtain ⟨t', ht1, ht2⟩ := Paired.get2 hv i v hvi
    refine IH _ _ v t' _ _ (Ok.keeps ⟨X, T, C⟩ F.keep) (by k_room) hh (TreeAt.mono (fun b o _ e => ⟨trivial, F.keep _ _ (hk _ _ e)⟩) n v t' ht2) (hfs _ (List.mem_of_getElem? ht1)) ?_
    intro bb tb h' tk' hw hk'
    k_unfold
    refine LCg.CompEnd.intro (Fr.keeps F hk') (News.grown N hk') [(D, listOf vs.toArray 0)] (fun p hp => hp) ⟨off, trivial⟩ (Or.inr ⟨_, List.mem_cons_self .., rfl, _, rfl⟩) ⟨rfl, parts ++ [bb], hp1.snoc ⟨_, rfl⟩, ?_⟩
    rw [List.take_add_one, ht1]
    exact hp2.snoc hw
  · rintro ys news ⟨rfl, parts, hp1, hp2⟩
    intro D3 h3 tk3 F3 N3 off3
    have hall : ts.take vs.toArray.size = ts := by rw [List.size_toArray, hv.length]; exact List.take_length
    rw [hall] at hp2
    have hp3 : PySem.Paired (Writes n) ts (parts.map KBw.bInts) := Paired.mapR hp2
    have hlens := Paired.lens (fun t ks => Writes.length n t ks) hp3
    have hsum := slen_le hsl
    have hsz0 : (parts.map (·.size)).sum < 256 := by rw [sizes_flat, hlens]; exact hsum
    have hjoin := flat_ints parts
    k_steps
    refine join_rule ((N3 _ (by k_mem)).1) rfl rfl hp1 (by omega) ?_
    intro tj kj
    generalize hin : (parts.map KBw.bInts).flatten = inner at *
    have hinl : inner.length ≤ 1000 := by omega
    generalize parts.foldl (· ++ ·) #[] = J at *
    have hvl := hv.length
    clear hall hp2 hx hv hsz0 IH off3 hfs hp1
    have hk' : k = 0 ∨ k = 1 ∨ k = 2 := by omega
    rcases hk' with rfl | rfl | rfl
    · have hs4 : 4 * ((inner.length + 2) / 3) < 256 := by rw [hlens]; simpa [slen] using hsl
      k_steps
      refine ret _ _ _ _ (writes_box (k := 0) hp3 hin (by assumption) (by assumption) ?_ ?_ (by assumption)) (fun b o e => Fr.keep (by assumption) b o (hk b o e))
      · omega
      · omega
    · have hs4 : 4 * ((inner.length + 2) / 3) < 256 := by rw [hlens]; simpa [slen] using hsl
      k_steps
      refine ret _ _ _ _ (writes_box (k := 1) hp3 hin (by assumption) (by assumption) ?_ ?_ (by assumption)) (fun b o e => Fr.keep (by assumption) b o (hk b o e))
      · omega
      · omega
    · have hs4 : 2 * inner.length < 256 := by rw [hlens]; simpa [slen] using hsl
      k_steps
      refine ret _ _ _ _ (writes_box (k := 2) hp3 hin (by assumption) (by assumption) ?_ ?_ (by assumption)) (fun b o e => Fr.keep (by assumption) b o (hk b o e))
      · omega
      · omega

theorem closed_spec {w : World} {loose : List Str} {mean : ExcName → Option Value} {mg mb : Str → Option Value} : ∀ (n : Nat) (A : Around) (s : Shared) (v : Value) (t : Tree) (Q E : Value → Shared → Prop), Ok w loose mean mg mb s.heap → A.depth + n + 5 < recursionLimit → A.handled = none → TreeAt (fun _ => True) s.heap n v t → Fits n t →
      (∀ bb t' h' tk, Writes n t (KBw.bInts bb) → (∀ b o, s.heap.get? b = some o → h'.get? b = some o) → Q (.bytes bb t') { s with heap := h', toks := tk }) → wpAny (model PR w) A (call (.ref 98) [v]) Q E s
  | n, A, s, v, .leaf b, Q, E, O, hd, hh, ht, hf, ret => by
    obtain ⟨a, t, rfl, hb⟩ := TreeAt.leaf_iff.mp ht
    exact closed_leaf O (by omega) hh hb (Fits.leaf_iff.mp hf).1 fun bb t' h' tk e k => ret bb t' h' tk (Writes.leaf_iff.mpr e) k
  | 0, A, s, v, .box k ts, Q, E, O, hd, hh, ht, hf, ret => ht.elim
  | n + 1, A, s, v, .box k ts, Q, E, O, hd, hh, ht, hf, ret => by
    obtain ⟨x, vs, t, e, rfl, _, hx, hv⟩ := ht
    exact closed_box O (by omega) hh hx hv hf (fun A s' v t Q E => closed_spec n A s' v t Q E) ret
end
section
open PySem PySem.W PyProof.Rows PySem.Calls
theorem pot_take (ns : List Int) (l : List Int) : potOf (ns.take 5 ++ l) ≤ 100 + potOf l := by
  have one : ∀ l : List Int, potOf l ≤ 20 * l.length := by
    intro l
    induction l with
    | nil => exact Nat.le_refl _
    | cons x r ih =>
      have : potOf (x :: r) = 4 * (2 + (x / 8 % 4).toNat) + potOf r := by simp [potOf]
      rw [this, List.length_cons]; omega
  have app : potOf (ns.take 5 ++ l) = potOf (ns.take 5) + potOf l := by simp [potOf]
  have h1 := one (ns.take 5)
  have h2 : (ns.take 5).length ≤ 5 := by rw [List.length_take]; omega
  omega
theorem wlen_le {n : Nat} {t : Tree} (h : Fits n t) : wlen n t ≤ 260 := by
  cases t with
  | leaf b => rw [wlen_leaf]; have := (Fits.leaf_iff.mp h).1; omega
  | box k ts =>
    cases n with
    | zero => exact h.elim
    | succ n =>
      have := h.2.2.1
      simp only [wlen]; omega
theorem news_os {g h h' : Heap} {L : Addr} {m : Str → Option Value} {os : List (Addr × Obj)} (F : Fr g L h m) (hos : ∀ p ∈ os, h'.get? p.1 = some p.2 ∧ h.get? p.1 = none) : News g L h' os := fun p hp => by
  refine ⟨(hos p hp).1, fun q => ?_, ?_⟩
  · obtain ⟨o, es, ep, e, r⟩ := F.ns
    have := (hos p hp).2
    rw [q, e] at this; cases this
  · cases q : g.get? p.1 with
    | none => rfl
    | some o => have := F.keep _ _ q; rw [(hos p hp).2] at this; cases this
theorem z0 : PySem.Challenge.rw_mr0056_01.Holds := by
  k_with_none
  (k_with "call ref" => (refine Stop.of ?_))
  (k_with "compareOp Eq" => ((with_reducible show wpAny _ _ (compareOp CmpOp.Eq (Value.ref _) (Value.ref _)) _ _ _); refine Stop.of ?_))
  refine hd ?_
  k_go0
  all_goals try k_fold
  k_steps
  unfold Stop
  rename Fr _ _ _ _ => F
  rename News _ _ _ _ => N
  rename IntsAre _ (List.take 5 _ ++ _) => hI
  rename Frag.In _ _ => X
  rename Top topProg _ _ _ _ _ => T
  have O := Ok.mk X T codeHd
  have hn0 := N _ mem3
  refine tree_spec (Ok.keeps O F.keep) (by rw [Around_deeper_depth]; decide) rfl (News.isList N mem0) hI (by simp only [List.length_append, List.length_take, List.length_cons, List.length_nil]; omega) (Nat.le_trans (pot_take _ _) (by decide)) ?_
  intro root os t h2 tk2 htl hfit hos hk2
  have N2 : News _ _ h2 ((100, tabObj #[]) :: os) := fun p hp => by
    rcases List.mem_cons.mp hp with rfl | hp
    · exact ⟨hk2 _ _ hn0.1, hn0.2⟩
    · exact news_os F hos p hp
  have hos100 : ∀ p ∈ os, p.1 ≠ 100 := fun p hp q => by have := (hos p hp).2; rw [q, hn0.1] at this; cases this
  replace F := F.keeps hk2
  clear N hn0 hos hk2 hI
  k_steps
  unfold Stop
  rename Fr _ _ _ _ => F
  rename News _ _ _ _ => N
  refine closed_spec 3 _ _ (.ref root) t _ _ (Ok.keeps O F.keep) (by rw [Around_deeper_depth]; decide) rfl (TreeL.at (fun p hp => ⟨(N p (List.mem_cons_of_mem _ hp)).1, trivial⟩) 3 _ _ htl) hfit ?_
  intro bb tb h3 tk3 hwr hk3
  generalize hbb : KBw.bInts bb = ks at hwr
  have hks : ks.length ≤ 1000 := by
    have h1 := Writes.length _ _ _ hwr
    have h2 := wlen_le hfit
    omega
  replace F := F.keeps hk3
  replace N := N.grown hk3
  clear hk3
  k_steps
  unfold Stop
  rename KBw.bInts (bb ++ _) = _ => hbp
  refine told_spec O F.keep (N _ mem0).2.2 (N _ mem0).1 hbp hks hwr hfit (by rw [Around_deeper_depth]; decide) rfl ?_
  intro x os' tv b2 tt h4 tk4 htl' hos' hx hxs hb2 hk4 htab
  obtain ⟨ps, hps, _⟩ := htab
  have h100n := (N _ mem0).2
  have N4 : News _ _ h4 ((x, W.listOf #[tv, .bytes b2 tt] 0) :: (100, tabObj ps) :: (os ++ os')) := fun p hp => by
    rcases List.mem_cons.mp hp with rfl | hp
    · exact ⟨hx, (fresh_in F hxs).2, (fresh_in F hxs).1⟩
    rcases List.mem_cons.mp hp with rfl | hp
    · exact ⟨hps, h100n⟩
    rcases List.mem_append.mp hp with hp | hp
    · have := N p (List.mem_cons_of_mem _ hp)
      exact ⟨hk4 _ _ (hos100 p hp) this.1, this.2⟩
    · exact ⟨(hos' p hp).1, (fresh_in F (hos' p hp).2).2, (fresh_in F (hos' p hp).2).1⟩
  replace F := fr_one F hk4 h100n.1 h100n.2
  clear N hos' hx hxs hk4 hps hos100
  k_steps
  unfold Stop
  rename News _ _ _ _ => N
  rename Fr _ _ _ _ => F
  refine told_eq (n := 3) (t := t) (p := fun _ => True) (q := fun _ => True) (N _ mem1).1 (N _ mem0).1 (TreeL.at (fun p hp => ⟨(N p (by simp [hp])).1, trivial⟩) 3 _ _ htl') (TreeL.at (fun p hp => ⟨(N p (by simp [hp])).1, trivial⟩) 3 _ _ htl) hb2 (by have := cLine_is; rw [Around_deeper_units]; decide) ?_
  k_steps
end
end Mine
theorem PySem.Challenge.cw_mr0056_01_holds : PySem.Challenge.rw_mr0056_01.Holds :=
  Mine.z0
