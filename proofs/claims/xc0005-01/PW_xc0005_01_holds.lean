import PyProof.Rows.All
import Wide.All
import OpenK.AllK
import Wide.FinOn
import PySem.Challenge.RW_xc0005_01
set_option Elab.async false
set_option rowWalk.seconds 0
set_option linter.unusedVariables false
set_option linter.unusedSimpArgs false
section
open PySem PySem.W PyProof.Rows
set_option maxRecDepth 100000
set_option maxHeartbeats 8000000
namespace Mine
open_top hd for PySem.Challenge.rw_xc0005_01
end Mine
end
section
open PySem.W in
example : True := by
  w_top off
  trivial
open PySem PySem.W PyProof.Rows PySem.Calls
set_option maxRecDepth 100000
set_option maxHeartbeats 16000000
namespace Mine

/-- what a call of one of the text's own defs may lean on -/
structure Sit (w : World) (dp un : Nat) (outer : List Env) (base h : Heap) (loose : List Str) (mean : ExcName → Option Value) (mg mb : Str → Option Value) : Prop where
  below : Below { frames := some outer } base outer h
  kin : (hd.heap_39 w.params).In h
  top : Top hd.view_39 loose mean mg mb h
  room : dp + 12 < recursionLimit
  units : un + 200 < cLine

abbrev arnd (dp un : Nat) (gd : Option (List Code)) (outer : List Env) : Around := { handled := none, depth := dp, frames := some outer, guards := gd, units := un }
abbrev theProg : Program := PySem.Challenge.rw_xc0005_01.row.prog

/-- the end of a called def: what it made is new to the caller's heap -/
noncomputable def LeaveP (g : Heap) (R : Result → Shared → Prop) (v : Value) (s' : Shared) : Prop :=
  ∃ L' m' news', Fr g L' s'.heap m' ∧ News g L' s'.heap news' ∧ (g.StaysIn s'.heap → (∀ p ∈ news', s'.heap.get? p.1 = some p.2 ∧ g.get? p.1 = none) → R (.ok (.ret v)) s')

theorem leaveP_ {g : Heap} {L' : Addr} {m' : Str → Option Value} {news' : List (Addr × Obj)} {R : Result → Shared → Prop} {v : Value} {s' : Shared} (F' : Fr g L' s'.heap m') (N' : News g L' s'.heap news')
    (k : g.StaysIn s'.heap → (∀ p ∈ news', s'.heap.get? p.1 = some p.2 ∧ g.get? p.1 = none) → R (.ok (.ret v)) s') : LeaveP g R v s' := ⟨L', m', news', F', N', k⟩

theorem leaveP_out {g : Heap} {R : Result → Shared → Prop} {v : Value} {s' : Shared} (h : LeaveP g R v s') : R (.ok (.ret v)) s' := by
  obtain ⟨L', m', news', F, N, k⟩ := h
  exact k F.keep fun p hp => ⟨(N p hp).1, (N p hp).2.2⟩

section
variable {w : World} {dp un : Nat} {gd : Option (List Code)} {outer : List Env} {base : Heap} {loose : List Str} {mean : ExcName → Option Value} {mg mb : Str → Option Value} {s : Shared}
  {R : Result → Shared → Prop} {name qual : Str} {params : Arguments} {body : List Stmt} {scope : Scope} {dV kV doc pm cdv ct oc : Value} {an od : Option Addr} {osl : Array (Option Value)} {f : Addr} {args : Args} {binds : List (Str × Value)}

theorem enter (S : Sit w dp un outer base s.heap loose mean mg mb)
    (ho : (hd.heap_39 w.params).lookup f = some ⟨oc, od, .func (fnOf name qual params body scope dV kV doc pm an cdv ct), osl⟩) (hcd : codeIn (hd.heap_39 w.params) cdv qual = true)
    (hbind : BindsTo s (fnOf name qual params body scope dV kV doc pm an cdv ct) args binds) (hloc : ∀ y ∈ binds, scope.names.lookup y.1 = some .local)
    (h : ∀ L' h₁, Fr s.heap L' h₁ (fun y => binds.reverse.lookup y) → News s.heap L' h₁ [] →
      wpAny (model theProg w) ((arnd dp un gd outer).deeper (envOf qual scope L' f cdv)) (execs body (envOf qual scope L' f cdv))
        (fun fl s' => LeaveP s.heap R (match fl with | .ret v => v | _ => .none) s')
        (fun e s' => wpAny (model theProg w) ((arnd dp un gd outer).deeper (envOf qual scope L' f cdv)) (leaving (envOf qual scope L' f cdv) e) (fun _ s'' => R (.error e) s'') (fun e' s'' => R (.error e') s'') s')
        { s with heap := h₁, toks := s.toks + binds.length })
    (hco : scope.isCoroutine = false) (hgen : scope.isGenerator = false) (hk : scope.kind = .function)
    (hcell : ∀ x ∈ scope.names, x.2 ≠ .cell) : codeAny (model theProg w) (arnd dp un gd outer) (.call (.ref f) args) R s := by
  have hroom : (arnd dp un gd outer).depth < recursionLimit := by have := S.room; show dp < recursionLimit; omega
  refine codeAny_call_def (fd := fnOf name qual params body scope dV kV doc pm an cdv ct) (body := body) (binds := binds) hroom (S.kin _ _ ho) rfl S.top.nolimit (codeRec_of S.kin hcd) rfl hbind hcell hloc (fun h₁ hns hk₁ => ?_) hco hgen hk
  exact wpAny_mono (h s.heap.objs.size h₁ ⟨hns, hk₁, Nat.le_refl _⟩ News.nil) (fun fl s' hl => leaveP_out hl) fun _ _ y => y
end

/-- a call that keeps what stood: the caller's frame and ledger stand too -/
theorem keepsFr {h₀ h h' : Heap} {L : Addr} {m : Str → Option Value} (F : Fr h₀ L h m) (st : h.StaysIn h') : Fr h₀ L h' m :=
  let ⟨⟨oL, es, ep, hL, r⟩, k, a⟩ := F
  ⟨⟨oL, es, ep, st _ _ hL, r⟩, fun b o e => st _ _ (k b o e), a⟩
theorem keepsNews {h₀ h h' : Heap} {L : Addr} {news : List (Addr × Obj)} (N : News h₀ L h news) (st : h.StaysIn h') : News h₀ L h' news :=
  fun p hp => ⟨st _ _ (N p hp).1, (N p hp).2⟩
theorem addsNews {h₀ h h' : Heap} {L a : Addr} {o : Obj} {m : Str → Option Value} {news : List (Addr × Obj)} (F : Fr h₀ L h m) (N : News h₀ L h news) (st : h.StaysIn h') (hn : h.get? a = none) (ha : h'.get? a = some o) :
    News h₀ L h' ((a, o) :: news) ∧ ∀ p ∈ news, p.1 ≠ a := by
  obtain ⟨⟨oL, es, ep, hL, r⟩, k, ab⟩ := F
  refine ⟨fun p hp => ?_, fun p hp e => ?_⟩
  · rcases List.mem_cons.mp hp with rfl | hp
    · refine ⟨ha, fun e => ?_, ?_⟩
      · have e' : a = L := e
        rw [e', hL] at hn
        cases hn
      · cases q : h₀.get? a with
        | none => rfl
        | some o' => rw [k _ _ q] at hn; cases hn
    · exact ⟨st _ _ (N p hp).1, (N p hp).2⟩
  · rw [← e, (N p hp).1] at hn; cases hn

/-- the situation of a call out of a walked frame -/
theorem sit_of {w : World} {dp un : Nat} {outer : List Env} {env : Env} {base h₀ h : Heap} {A₀ : Around} {L : Addr} {m : Str → Option Value} {loose : List Str} {mean : ExcName → Option Value} {mg mb : Str → Option Value}
    (B : Below A₀ base outer h₀) (F : Fr h₀ L h m) (X : (hd.heap_39 w.params).In h₀) (T : Top hd.view_39 loose mean mg mb h₀) (hf : env.frame = some L) (hk : env.scope.kind = .function)
    (hr : dp + 12 < recursionLimit) (hu : un + 200 < cLine) : Sit w dp un (env :: outer) base h loose mean mg mb :=
  ⟨⟨rfl, (pushX B F hf hk).stays, (pushX B F hf hk).frames⟩, X.keeps F.keep, T.keeps F.keep, hr, hu⟩

end Mine
end
section
open PySem.W in
example : True := by
  w_top off
  trivial
open PySem PySem.W PyProof.Rows PySem.Calls
set_option maxRecDepth 100000
set_option maxHeartbeats 16000000
namespace Mine
section
variable {w : World} {dp un : Nat} {gd : Option (List Code)} {outer : List Env} {base : Heap} {loose : List Str} {mean : ExcName → Option Value} {mg mb : Str → Option Value} {s : Shared}
  {R : Result → Shared → Prop} {name qual : Str} {params : Arguments} {body : List Stmt} {scope : Scope} {dV kV doc pm cdv ct oc : Value} {an od : Option Addr} {osl : Array (Option Value)} {f : Addr} {args : Args} {binds : List (Str × Value)}
theorem enterC (S : Sit w dp un outer base s.heap loose mean mg mb)
    (ho : (hd.heap_39 w.params).lookup f = some ⟨oc, od, .func (fnOf name qual params body scope dV kV doc pm an cdv ct), osl⟩) (hcd : codeIn (hd.heap_39 w.params) cdv qual = true)
    (hbind : BindsTo s (fnOf name qual params body scope dV kV doc pm an cdv ct) args binds) (hkind : (binds.all fun y => scope.names.lookup y.1 == some .local || scope.names.lookup y.1 == some .cell) = true)
    (hnd : ((cellsFrom 0 scope.names []).map (·.1)).Nodup)
    (h : ∀ L' h₁ tk cells, Fr s.heap L' h₁ (bindL (envOfC qual scope L' f cdv).kindOf binds fun _ => none) → News s.heap L' h₁ cells →
      CellsAre (bindC (envOfC qual scope L' f cdv).kindOf binds fun _ => none) (cellsFrom (L' + 1) scope.names []) cells →
      wpAny (model theProg w) ((arnd dp un gd outer).deeper (envOfC qual scope L' f cdv)) (execs body (envOfC qual scope L' f cdv))
        (fun fl s' => LeaveP s.heap R (match fl with | .ret v => v | _ => .none) s')
        (fun e s' => wpAny (model theProg w) ((arnd dp un gd outer).deeper (envOfC qual scope L' f cdv)) (leaving (envOfC qual scope L' f cdv) e) (fun _ s'' => R (.error e) s'') (fun e' s'' => R (.error e') s'') s')
        { s with heap := h₁, toks := tk })
    (hco : scope.isCoroutine = false) (hgen : scope.isGenerator = false) (hk : scope.kind = .function) : codeAny (model theProg w) (arnd dp un gd outer) (.call (.ref f) args) R s := by
  have hroom : (arnd dp un gd outer).depth < recursionLimit := by have := S.room; show dp < recursionLimit; omega
  refine codeAny_call_function hroom (S.kin _ _ ho) rfl hco hgen rfl (codeRec_of S.kin hcd) (hbind _ _ _ _ ?_)
  refine wpAny_newFunctionEnv_cells hk (kindsX hkind _) fun env' he s' x => ?_
  subst he
  refine ⟨S.top.nolimit.keeps x.toInCall.keep, codeAny_func ?_⟩
  obtain ⟨h₁, tk, rfl, _⟩ := x.done
  have hk₁ := x.toInCall.keep
  obtain ⟨cells, NC, Y⟩ := Cl.news (h₀ := s.heap) (Nat.le_refl _) fun n c hm => ⟨x.cell n c (lookup_of_mem_nodup (cellsFrom_names scope.names 0 (s.heap.objs.size + 1) [] [] rfl ▸ hnd) hm), x.above n c hm⟩
  exact wpAny_mono (h s.heap.objs.size h₁ tk cells ⟨x.toInCall.ns, hk₁, Nat.le_refl _⟩ NC Y) (fun fl s' hl => leaveP_out hl) fun _ _ y => y
end
end Mine
end
section
open PySem.W in
example : True := by
  w_top off
  trivial
open PySem PySem.W PyProof.Rows PySem.Calls
set_option maxRecDepth 100000
set_option maxHeartbeats 16000000
namespace Mine
example (w : World) : hd.heap_39 w.params = hd.heap_39 w.params ∧ PySem.Challenge.rw_xc0005_01 = PySem.Challenge.rw_xc0005_01 := by
  k_fill
  exact ⟨rfl, rfl⟩

/-- a number's letters -/
noncomputable def digs : Nat → Nat → List UInt8
  | 0, _ => []
  | f + 1, n => if n = 0 then [] else digs f (n / 16) ++ [(65 + n % 16).toUInt8]
noncomputable def apB (n : Nat) : Array UInt8 := (digs 4 n).toArray

theorem ap_picked {i : Int} (h0 : 0 ≤ i) (h1 : i < 16) :
    KBy.picked #[65, 66, 67, 68, 69, 70, 71, 72, 73, 74, 75, 76, 77, 78, 79, 80] (some i) (some (i + 1)) = #[(65 + i.toNat).toUInt8] := by
  obtain ⟨n, rfl⟩ := Int.eq_ofNat_of_zero_le h0
  have hn : n < 16 := by omega
  have : ∀ k : Fin 16, KBy.picked #[65, 66, 67, 68, 69, 70, 71, 72, 73, 74, 75, 76, 77, 78, 79, 80] (some ((k.val : Nat) : Int)) (some (((k.val : Nat) : Int) + 1)) = #[(65 + k.val).toUInt8] := by decide +kernel
  simpa using this ⟨n, hn⟩

theorem digs_len : ∀ f n, (digs f n).length ≤ f
  | 0, _ => Nat.le_refl _
  | f + 1, n => by
    unfold digs
    split
    · exact Nat.zero_le _
    · rw [List.length_append]; exact Nat.succ_le_succ (digs_len f (n / 16))

noncomputable def ApI (N : Nat) (n : Int) (v : Array UInt8) : Prop := 0 ≤ n ∧ ∃ f, n.toNat < 16 ^ f ∧ f ≤ 4 ∧ digs f n.toNat ++ v.toList = digs 4 N
theorem apI_small {N : Nat} {n : Int} {v : Array UInt8} (h : ApI N n v) : v.size ≤ 4 := by
  obtain ⟨_, f, _, _, h⟩ := h
  have h2 := congrArg List.length h
  simp only [List.length_append, Array.length_toList] at h2
  have := digs_len 4 N
  omega
theorem apI_start {num : Int} (hn : num.natAbs < 65536) : ApI num.natAbs (if num < 0 then -num else num) #[] := by
  have e : (if num < 0 then -num else num) = (num.natAbs : Int) := by split <;> omega
  rw [e]
  refine ⟨Int.natCast_nonneg _, 4, ?_, Nat.le_refl _, ?_⟩
  · simpa using hn
  · simp
theorem apI_step {N : Nat} {n : Int} {v : Array UInt8} (h : ApI N n v) (h0 : n ≠ 0) : ApI N (n.fdiv 16) (#[(65 + (n.fmod 16).toNat).toUInt8] ++ v) := by
  obtain ⟨hp, f, h1, h2, h3⟩ := h
  obtain ⟨k, rfl⟩ := Int.eq_ofNat_of_zero_le hp
  have hk : k ≠ 0 := fun e => h0 (by rw [e]; rfl)
  have e1 : Int.fdiv (k : Int) 16 = ((k / 16 : Nat) : Int) := by
    rw [Int.fdiv_eq_ediv_of_nonneg _ (by decide)]; rfl
  have e2 : Int.fmod (k : Int) 16 = ((k % 16 : Nat) : Int) := by
    rw [Int.fmod_eq_emod_of_nonneg _ (by decide)]; rfl
  rw [e1, e2]
  simp only [Int.toNat_natCast] at h1 h3 ⊢
  cases f with
  | zero => simp at h1; exact absurd h1 hk
  | succ f =>
    refine ⟨Int.natCast_nonneg _, f, ?_, by omega, ?_⟩
    · simp only [Int.toNat_natCast]
      rw [Nat.pow_succ] at h1
      omega
    · simp only [Int.toNat_natCast]
      rw [← h3, digs, if_neg hk]
      simp
theorem apI_less {N : Nat} {n : Int} {v : Array UInt8} (h : ApI N n v) (h0 : n ≠ 0) : (n.fdiv 16).toNat < n.toNat := by
  have := h.1
  rw [Int.fdiv_eq_ediv_of_nonneg _ (by decide)]
  omega
theorem apI_end {N : Nat} {n : Int} {v : Array UInt8} (h : ApI N n v) (h0 : n = 0) : v = apB N := by
  obtain ⟨_, f, _, _, h⟩ := h
  subst h0
  have : digs f 0 = [] := by cases f <;> simp [digs]
  unfold apB
  rw [← h]
  simp [this]
section
variable {prog : Program} {w : World} {A : Around} {E : Value → Shared → Prop} {s : Shared} {value slice : PySem.Expr} {t ti tj : Tok} {h₀ : Heap} {L : Addr} {m : PySem.Str → Option Value} {news : List (Addr × Obj)} {Q : Value → Shared → Prop} {i : Int}
theorem ap_cut (hF : Fr h₀ L s.heap m) (hN : News h₀ L s.heap news) (h0 : 0 ≤ i) (h1 : i < 16)
    (h : ∀ h' t' k, Fr h₀ L h' m → News h₀ L h' news → Q (.bytes #[(65 + i.toNat).toUInt8] t') { s with heap := h', toks := k })
    (hs : subscripted slice false (.bytes #[65, 66, 67, 68, 69, 70, 71, 72, 73, 74, 75, 76, 77, 78, 79, 80] t) (.ref s.heap.objs.size) = operate [.ref s.heap.objs.size, .bytes #[65, 66, 67, 68, 69, 70, 71, 72, 73, 74, 75, 76, 77, 78, 79, 80] t] (getItem (.bytes #[65, 66, 67, 68, 69, 70, 71, 72, 73, 74, 75, 76, 77, 78, 79, 80] t) (.ref s.heap.objs.size)))
    (ht : ∀ r, letTemporaryGo value (.bytes #[65, 66, 67, 68, 69, 70, 71, 72, 73, 74, 75, 76, 77, 78, 79, 80] t) r = pure ()) :
    wpAny (model prog w) A (subscriptTail value slice (.bytes #[65, 66, 67, 68, 69, 70, 71, 72, 73, 74, 75, 76, 77, 78, 79, 80] t) (.ref s.heap.objs.size)) Q E { s with heap := s.heap.push { cls := .type "slice", data := .fields #[.int i ti, .int (i + 1) tj, .none] } } := by
  refine KBc.slice_K hF hN rfl (IsPart.int i ti) (IsPart.int (i + 1) tj) (by decide) (fun h' t' k F' N' _ => ?_) hs ht
  rw [ap_picked h0 h1]
  exact h h' t' k F' N'
end
local macro_rules | `(tactic| walk_at "subscriptTail Name Slice bytes ref") => `(tactic| (k_here; (with_reducible rename Fr _ _ _ _ => F'); (with_reducible rename News _ _ _ _ => N'); (with_unfolding_all refine ap_cut (s := ⟨_, _, _, _, _⟩) F' N' ?k0 ?k1 ?k2 ?k3 ?k4); (case k0 => exact fmod_lo _ (by decide)); (case k1 => exact fmod_hi _ (by decide)); (case k3 => with_unfolding_all rfl); (case k4 => (intro _; with_unfolding_all rfl)); intro h' t' k' F' N'))

local macro_rules | `(tactic| walk_at "binaryOp Add bytes bytes") => `(tactic| (k_here; (rename ApI _ _ _ => hA'); (refine KBy.add_bytes (by (have hB' := apI_small hA'); first | (simp only [List.size_toArray, List.length_cons, List.length_nil]; omega) | (rw [sizeLine_eq]; simp only [List.size_toArray, List.length_cons, List.length_nil]; omega)) ?_); intro _ _))
section
variable {w : World} {dp un : Nat} {gd : Option (List Code)} {outer : List Env} {base : Heap} {loose : List Str} {mean : ExcName → Option Value} {mg mb : Str → Option Value} {s : Shared}
  {Q E : Value → Shared → Prop}

theorem c_int2ap (S : Sit w dp un outer base s.heap loose mean mg mb) {num : Int} {t₀ : Tok} (hn : num.natAbs < 65536)
    (hQ : ∀ t h' tk', s.heap.StaysIn h' → Q (.bytes (apB num.natAbs) t) { s with heap := h', toks := tk' }) :
    wpAny (model theProg w) (arnd dp un gd outer) (call (.ref 106) [.int num t₀]) Q E s := by
  obtain ⟨B, X, T, hr, hu⟩ := id S
  refine wpAny_call ?_
  refine' enter S ?k6 ?k7 ?k9 ?kB ?_ ?c2 ?c3 ?c4 ?c5; (case k6 => k_is); (case k7 => k_is); (case k9 => exact BindsTo.of_eq rfl); (case c5 => decide); (case kB => exact locs rfl); (case c2 => exact rfl); (case c3 => exact rfl); (case c4 => exact rfl)
  intro L' h₁ F N
  try dsimp only
  k_fold
  k_with_none
  k_with "state" => first | exact apI_start hn | exact apI_step (by assumption) (by assumption)
  k_with "measure" => exact apI_less (by assumption) (by assumption)
  k_with "exec While Name cons nil" => k_while (fun (_ : List Int) n v => ApI num.natAbs n v) (fun (_ : List Int) n _ => n.toNat) "num" "val"
  k_steps
  all_goals (try dsimp only)
  all_goals (try k_unfold)
  all_goals (try dsimp only)
  refine leaveP_ (by k_asm) (by k_asm) fun st _ => ?_
  dsimp only
  (rename ApI _ _ _ => hA')
  rw [apI_end hA' (by assumption)]
  exact hQ _ _ _ st
end
end Mine
end
section
open PySem.W in
example : True := by
  w_top off
  trivial
open PySem
set_option maxRecDepth 100000
namespace Mine
open PySem.Sre

noncomputable def reC1 : Array Nat := #[14, 4, 0, 1, 1, 6, 1, 16, 46, 1]
noncomputable def reC3 : Array Nat := #[14, 9, 4, 1, 2, 16, 10, 16, 13, 0, 7, 7, 16, 13, 16, 10, 15, 18, 5, 16, 10, 15, 13, 11, 16, 13, 5, 5, 0, 16, 10, 1, 15, 2, 0, 1]

theorem runFor_done (m : M) (h : m.outcome.isSome = true) : ∀ n, M.runFor n m = m
  | 0 => rfl
  | n + 1 => by rw [M.runFor, if_pos h]
theorem runFor_add : ∀ (a b : Nat) (m : M), M.runFor (a + b) m = M.runFor b (M.runFor a m)
  | 0, b, m => by rw [Nat.zero_add]; rfl
  | a + 1, b, m => by
    rw [show a + 1 + b = (a + b) + 1 from by omega]
    by_cases h : m.outcome.isSome = true
    · rw [runFor_done m h, runFor_done m h, runFor_done m h]
    · rw [M.runFor, M.runFor, if_neg h, if_neg h]
      exact runFor_add a b m.step
theorem runFor_one (m : M) (h : m.outcome = none) : M.runFor 1 m = m.step := by
  rw [M.runFor, if_neg (by rw [h]; exact Bool.false_ne_true)]; rfl
/-- n steps lead from m to m' -/
noncomputable def Leads (m : M) (n : Nat) (m' : M) : Prop := M.runFor n m = m'
theorem Leads.step {m m' : M} (h : m.outcome = none) (e : m.step = m') : Leads m 1 m' := (runFor_one m h).trans e
theorem Leads.trans {m m' m'' : M} {a b : Nat} (h : Leads m a m') (h' : Leads m' b m'') : Leads m (a + b) m'' := by
  unfold Leads at *
  rw [runFor_add, h, h']

/-- the first machine stands at a start p -/
noncomputable def r1 (T : Array Nat) (p : Nat) (first : Bool) (seen : Seen) : M :=
  { code := reC1, text := T, lim := T.size, start := p, lastStart := T.size, pc := 5, pos := p, handed := p, outermost := first, marks := #[], seen := seen,
    frames := [{ wait := .nextStart, pc := 5, pos := p, outermost := first }], weight := 1 }

theorem r1_start (T : Array Nat) (p : Nat) (h : p < T.size) : ∃ seen, forSearch reC1 T 0 p T.size false = r1 T p true seen := by
  have e : (decide (p > T.size) || decide (T.size - p < (header reC1).1)) = false := by
    have : (header reC1).1 = 1 := rfl
    rw [this]
    simp; omega
  unfold forSearch
  simp only [e]
  exact ⟨_, rfl⟩
theorem r1_short (T : Array Nat) (p : Nat) (h : ¬ p < T.size) : Leads (forSearch reC1 T 0 p T.size false) 1 { (forSearch reC1 T 0 p T.size false) with outcome := some .failed } := by
  have e : (decide (p > T.size) || decide (T.size - p < (header reC1).1)) = true := by
    have : (header reC1).1 = 1 := rfl
    rw [this]
    simp; omega
  unfold forSearch
  simp only [e]
  exact .step rfl rfl
theorem r1_at (T : Array Nat) (p : Nat) (first : Bool) (seen : Seen) : (r1 T p first seen).step =
    (if (p == 0 || T.getD (p - 1) 0 == 10) = true then { r1 T p first ((seen.add 6).add 44) with pc := 7 } else { r1 T p first ((seen.add 6).add 44) with answer := some false }) := rfl
theorem r1_lit (T : Array Nat) (p : Nat) (first : Bool) (seen : Seen) (h : p < T.size) : ({ r1 T p first seen with pc := 7 } : M).step =
    (if (T.getD p 0 == 46) = true then { r1 T p first (seen.add 16) with pc := 9, pos := p + 1 } else { r1 T p first (seen.add 16) with pc := 7, answer := some false }) := by
  show (if p ≥ T.size then _ else match (Except.ok (T.getD p 0 == 46, seen.add 16) : Except String (Bool × Seen)) with
    | .error why => _
    | .ok (false, seen) => { r1 T p first seen with pc := 7, answer := some false }
    | .ok (true, seen) => { r1 T p first seen with pc := 9, pos := p + 1 }) = _
  rw [if_neg (by omega)]
  cases T.getD p 0 == 46 <;> rfl
theorem r1_over (T : Array Nat) (p : Nat) (first : Bool) (seen : Seen) (h : ¬ p < T.size) : ({ r1 T p first seen with pc := 7 } : M).step =
    { r1 T p first (seen.add 16) with pc := 7, answer := some false } := by
  show (if p ≥ T.size then _ else _) = _
  rw [if_pos (by omega)]
  rfl
theorem r1_yes (T : Array Nat) (p : Nat) (first : Bool) (seen : Seen) : ∃ m, Leads ({ r1 T p first seen with pc := 9, pos := p + 1 } : M) 3 m ∧ m.outcome = some .matched ∧ m.start = p ∧ m.handed = p + 1 := by
  cases first
  · exact ⟨_, (Leads.step rfl rfl).trans ((Leads.step rfl rfl).trans (.step rfl rfl)), rfl, rfl, rfl⟩
  · exact ⟨_, (Leads.step rfl rfl).trans ((Leads.step rfl rfl).trans (.step rfl rfl)), rfl, rfl, rfl⟩
theorem r1_no (T : Array Nat) (p pc : Nat) (first : Bool) (seen : Seen) (h : p < T.size) : Leads ({ r1 T p first seen with pc := pc, answer := some false } : M) 1 (r1 T (p + 1) false seen) := by
  refine .step rfl ?_
  show (if p < T.size then r1 T (p + 1) false seen else _) = _
  rw [if_pos h]
theorem r1_last (T : Array Nat) (p pc : Nat) (first : Bool) (seen : Seen) (h : ¬ p < T.size) : ∃ m, Leads ({ r1 T p first seen with pc := pc, answer := some false } : M) 2 m ∧ m.outcome = some .failed := by
  have : ({ r1 T p first seen with pc := pc, answer := some false } : M).step = { r1 T p first seen with frames := [], weight := 0, answer := some false } := by
    show (if p < T.size then _ else _) = _
    rw [if_neg h]
    rfl
  exact ⟨_, (Leads.step rfl this).trans (.step rfl rfl), rfl⟩

/-- where the first pattern is found -/
noncomputable def find1 (T : Array Nat) : Nat → Nat → Option Nat
  | 0, _ => none
  | f + 1, p => if p < T.size then (if (p == 0 || T.getD (p - 1) 0 == 10) = true then (if (T.getD p 0 == 46) = true then some p else find1 T f (p + 1)) else find1 T f (p + 1)) else none

theorem r1_all (T : Array Nat) : ∀ (f p : Nat) (first : Bool) (seen : Seen), p + f = T.size + 1 → p ≤ T.size → ∃ n m, Leads (r1 T p first seen) n m ∧ n ≤ 5 * f ∧
    match find1 T f p with
    | some q => m.outcome = some .matched ∧ m.start = q ∧ m.handed = q + 1
    | none => m.outcome = some .failed
  | 0, p, first, seen, h, h' => by omega
  | f + 1, p, first, seen, h, _ => by
    unfold find1
    by_cases hp : p < T.size
    · rw [if_pos hp]
      by_cases h1 : (p == 0 || T.getD (p - 1) 0 == 10) = true
      · rw [if_pos h1]
        have l1 : Leads (r1 T p first seen) 1 { r1 T p first ((seen.add 6).add 44) with pc := 7 } := .step rfl ((r1_at T p first seen).trans (if_pos h1))
        by_cases h2 : (T.getD p 0 == 46) = true
        · rw [if_pos h2]
          have l2 := Leads.step (m := { r1 T p first ((seen.add 6).add 44) with pc := 7 }) rfl ((r1_lit T p first _ hp).trans (if_pos h2))
          obtain ⟨m, l3, a, b, c⟩ := r1_yes T p first (((seen.add 6).add 44).add 16)
          exact ⟨_, m, (l1.trans l2).trans l3, by omega, a, b, c⟩
        · rw [if_neg h2]
          have l2 := Leads.step (m := { r1 T p first ((seen.add 6).add 44) with pc := 7 }) rfl ((r1_lit T p first _ hp).trans (if_neg h2))
          have l3 := r1_no T p 7 first (((seen.add 6).add 44).add 16) hp
          obtain ⟨n, m, l4, hn, r⟩ := r1_all T f (p + 1) false (((seen.add 6).add 44).add 16) (by omega) (by omega)
          exact ⟨_, m, ((l1.trans l2).trans l3).trans l4, by omega, r⟩
      · rw [if_neg h1]
        have l1 : Leads (r1 T p first seen) 1 { r1 T p first ((seen.add 6).add 44) with answer := some false } := .step rfl ((r1_at T p first seen).trans (if_neg h1))
        have l3 := r1_no T p 5 first ((seen.add 6).add 44) hp
        obtain ⟨n, m, l4, hn, r⟩ := r1_all T f (p + 1) false ((seen.add 6).add 44) (by omega) (by omega)
        exact ⟨_, m, (l1.trans l3).trans l4, by omega, r⟩
    · rw [if_neg hp]
      by_cases h1 : (p == 0 || T.getD (p - 1) 0 == 10) = true
      · have l1 : Leads (r1 T p first seen) 1 { r1 T p first ((seen.add 6).add 44) with pc := 7 } := .step rfl ((r1_at T p first seen).trans (if_pos h1))
        have l2 := Leads.step (m := { r1 T p first ((seen.add 6).add 44) with pc := 7 }) rfl (r1_over T p first _ hp)
        obtain ⟨m, l3, a⟩ := r1_last T p 7 first (((seen.add 6).add 44).add 16) hp
        exact ⟨_, m, (l1.trans l2).trans l3, by omega, a⟩
      · have l1 : Leads (r1 T p first seen) 1 { r1 T p first ((seen.add 6).add 44) with answer := some false } := .step rfl ((r1_at T p first seen).trans (if_neg h1))
        obtain ⟨m, l3, a⟩ := r1_last T p 5 first ((seen.add 6).add 44) hp
        exact ⟨_, m, l1.trans l3, by omega, a⟩

/-! the line ends' pattern -/
theorem lit_yes (m : M) (h0 : m.outcome = none) (ha : m.answer = none) (hpc : m.pc < m.code.size) (hop : ops[m.code.getD m.pc 0]? = some .LITERAL) (hp : m.pos < m.lim)
    (hc : (m.text.getD m.pos 0 == m.code.getD (m.pc + 1) 0) = true) : m.step = { m with seen := m.seen.add (m.code.getD m.pc 0), pc := m.pc + 2, pos := m.pos + 1 } := by
  unfold M.step
  rw [if_neg (by rw [h0]; exact Bool.false_ne_true), ha]
  simp only []
  rw [if_pos hpc]
  unfold M.exec M.word
  rw [show m.pc + 0 = m.pc from rfl, hop]
  simp only []
  rw [if_neg (by omega)]
  have e : accepts m.code m.pc (m.text.getD m.pos 0) (m.seen.add (m.code.getD m.pc 0)) = .ok (m.text.getD m.pos 0 == m.code.getD (m.pc + 1) 0, m.seen.add (m.code.getD m.pc 0)) := by
    unfold accepts
    rw [hop]
  have w : itemWidth m.code m.pc = 2 := by unfold itemWidth; rw [hop]
  rw [e, hc]
  simp only []
  rw [w, ha]
theorem lit_no (m : M) (h0 : m.outcome = none) (ha : m.answer = none) (hpc : m.pc < m.code.size) (hop : ops[m.code.getD m.pc 0]? = some .LITERAL) 
    (hc : ¬ (m.pos < m.lim ∧ (m.text.getD m.pos 0 == m.code.getD (m.pc + 1) 0) = true)) : m.step = { m with seen := m.seen.add (m.code.getD m.pc 0), answer := some false } := by
  unfold M.step
  rw [if_neg (by rw [h0]; exact Bool.false_ne_true), ha]
  simp only []
  rw [if_pos hpc]
  unfold M.exec M.word
  rw [show m.pc + 0 = m.pc from rfl, hop]
  simp only []
  by_cases hp : m.pos ≥ m.lim
  · rw [if_pos hp]; rfl
  rw [if_neg hp]
  have e : accepts m.code m.pc (m.text.getD m.pos 0) (m.seen.add (m.code.getD m.pc 0)) = .ok (m.text.getD m.pos 0 == m.code.getD (m.pc + 1) 0, m.seen.add (m.code.getD m.pc 0)) := by
    unfold accepts
    rw [hop]
  have hc' : (m.text.getD m.pos 0 == m.code.getD (m.pc + 1) 0) = false := by
    cases q : (m.text.getD m.pos 0 == m.code.getD (m.pc + 1) 0) with
    | false => rfl
    | true => exact absurd ⟨by omega, q⟩ hc
  rw [e, hc']
  rfl

noncomputable def r3 (T : Array Nat) (p : Nat) (first : Bool) (seen : Seen) : M :=
  { code := reC3, text := T, lim := T.size, start := p, lastStart := T.size, pc := 10, pos := p, handed := p, outermost := first, marks := #[], seen := seen,
    frames := [{ wait := .nextStart, pc := 10, pos := p, outermost := first }], weight := 1 }

noncomputable def e3 (T : Array Nat) (q pc pos handed : Nat) (out : Bool) (frames : List Sre.Frame) (weight : Nat) (answer : Option Bool) (seen : Seen) : M :=
  { code := reC3, text := T, lim := T.size, start := q, lastStart := T.size, pc := pc, pos := pos, handed := handed, outermost := out, marks := #[], seen := seen, frames := frames, weight := weight, answer := answer }
noncomputable def f0 (q : Nat) : Sre.Frame := { wait := .nextStart, pc := 10, pos := q, outermost := true }
noncomputable def f1 (q alt : Nat) : Sre.Frame := { wait := .nextBranch, pc := alt, pos := q, outermost := true }
noncomputable def f2 (q : Nat) : Sre.Frame := { wait := .lookNot, pc := 26, pos := q + 1, outermost := true }
section
variable (T : Array Nat) (q : Nat) (seen : Seen)
theorem r3_e3 : r3 T q true seen = e3 T q 10 q q true [f0 q] 1 none seen := rfl
theorem b_branch : (e3 T q 10 q q true [f0 q] 1 none seen).step = e3 T q 12 q q true [f1 q 11, f0 q] 2 none (seen.add 7) := rfl
theorem e3_lit_yes (pc pos h : Nat) (out : Bool) (fs : List Sre.Frame) (w c : Nat) (hpc : pc < 36) (hop : reC3.getD pc 0 = 16) (hc : reC3.getD (pc + 1) 0 = c) (hp : pos < T.size) (ht : T.getD pos 0 = c) :
    (e3 T q pc pos h out fs w none seen).step = e3 T q (pc + 2) (pos + 1) h out fs w none (seen.add 16) := by
  have := lit_yes (e3 T q pc pos h out fs w none seen) rfl rfl hpc (show ops[reC3.getD pc 0]? = _ by rw [hop]; rfl) hp (show (T.getD pos 0 == reC3.getD (pc + 1) 0) = true by rw [ht, hc]; simp)
  rw [this]
  show _ = e3 T q (pc + 2) (pos + 1) h out fs w none (seen.add 16)
  unfold e3
  dsimp only
  rw [hop]
theorem e3_lit_no (pc pos h : Nat) (out : Bool) (fs : List Sre.Frame) (w c : Nat) (hpc : pc < 36) (hop : reC3.getD pc 0 = 16) (hc : reC3.getD (pc + 1) 0 = c) (ht : ¬ (pos < T.size ∧ T.getD pos 0 = c)) :
    (e3 T q pc pos h out fs w none seen).step = e3 T q pc pos h out fs w (some false) (seen.add 16) := by
  have := lit_no (e3 T q pc pos h out fs w none seen) rfl rfl hpc (show ops[reC3.getD pc 0]? = _ by rw [hop]; rfl) (show ¬ (pos < T.size ∧ (T.getD pos 0 == reC3.getD (pc + 1) 0) = true) by rw [hc]; simpa using ht)
  rw [this]
  unfold e3
  dsimp only
  rw [hop]
/-- the ways out -/
theorem b_jump1 (fs) (w : Nat) (h : Nat) : (e3 T q 16 (q + 2) h true fs w none seen).step = e3 T q 35 (q + 2) h true fs w none (seen.add 15) := rfl
theorem b_jump2 (fs) (w : Nat) (h : Nat) : (e3 T q 21 (q + 1) h true fs w none seen).step = e3 T q 35 (q + 1) h true fs w none (seen.add 15) := rfl
theorem b_jump3 (fs) (w : Nat) (h : Nat) : (e3 T q 32 (q + 1) h true fs w none seen).step = e3 T q 35 (q + 1) h true fs w none (seen.add 15) := rfl
theorem b_success (pos h alt : Nat) : Leads (e3 T q 35 pos h true [f1 q alt, f0 q] 2 none seen) 4 { e3 T q 10 q pos true [] 0 (some true) (seen.add 1) with outcome := some .matched } :=
  (Leads.step rfl (show _ = e3 T q 35 pos pos true [f1 q alt, f0 q] 2 (some true) (seen.add 1) from rfl)).trans ((Leads.step rfl (show _ = e3 T q alt q pos true [f0 q] 1 (some true) (seen.add 1) from rfl)).trans
    ((Leads.step rfl (show _ = e3 T q 10 q pos true [] 0 (some true) (seen.add 1) from rfl)).trans (.step rfl rfl)))
theorem b_fail1 (pc pos : Nat) (seen : Seen) : (e3 T q pc pos q true [f1 q 11, f0 q] 2 (some false) seen).step = e3 T q 19 q q true [f1 q 18, f0 q] 2 none seen := rfl
theorem b_fail2 (pc pos : Nat) (seen : Seen) : (e3 T q pc pos q true [f1 q 18, f0 q] 2 (some false) seen).step = e3 T q 24 q q true [f1 q 23, f0 q] 2 none seen := rfl
theorem b_look (seen : Seen) : (e3 T q 26 (q + 1) q true [f1 q 23, f0 q] 2 none seen).step = e3 T q 29 (q + 1) (q + 1) false [f2 q, f1 q 23, f0 q] 3 none (seen.add 5) := rfl
theorem b_lookback (pc pos : Nat) (h : Nat) (seen : Seen) : (e3 T q pc pos h false [f2 q, f1 q 23, f0 q] 3 (some false) seen).step = e3 T q 32 (q + 1) h true [f1 q 23, f0 q] 2 none seen := rfl

theorem r3_a (hq : q + 1 < T.size) (h1 : T.getD q 0 = 13) (h2 : T.getD (q + 1) 0 = 10) :
    ∃ n m, Leads (r3 T q true seen) n m ∧ n ≤ 40 ∧ m.outcome = some .matched ∧ m.start = q ∧ m.handed = q + 2 := by
  rw [r3_e3]
  have l := (Leads.step rfl (b_branch T q seen)).trans ((Leads.step rfl (e3_lit_yes T q _ 12 q q true _ 2 13 (by decide) rfl rfl (by omega) h1)).trans
    ((Leads.step rfl (e3_lit_yes T q _ 14 (q + 1) q true _ 2 10 (by decide) rfl rfl hq h2)).trans ((Leads.step rfl (b_jump1 T q _ _ 2 q)).trans (b_success T q _ (q + 2) q 11))))
  exact ⟨_, _, l, by omega, rfl, rfl, rfl⟩
theorem r3_b (hq : q < T.size) (h1 : T.getD q 0 = 10) :
    ∃ n m, Leads (r3 T q true seen) n m ∧ n ≤ 40 ∧ m.outcome = some .matched ∧ m.start = q ∧ m.handed = q + 1 := by
  rw [r3_e3]
  have l := (Leads.step rfl (b_branch T q seen)).trans ((Leads.step rfl (e3_lit_no T q _ 12 q q true _ 2 13 (by decide) rfl rfl (by rw [h1]; omega))).trans
    ((Leads.step rfl (b_fail1 T q _ _ _)).trans ((Leads.step rfl (e3_lit_yes T q _ 19 q q true _ 2 10 (by decide) rfl rfl hq h1)).trans
    ((Leads.step rfl (b_jump2 T q _ _ 2 q)).trans (b_success T q _ (q + 1) q 18)))))
  exact ⟨_, _, l, by omega, rfl, rfl, rfl⟩
theorem r3_c (hq : q < T.size) (h1 : T.getD q 0 = 13) (h2 : ¬ (q + 1 < T.size ∧ T.getD (q + 1) 0 = 10)) :
    ∃ n m, Leads (r3 T q true seen) n m ∧ n ≤ 40 ∧ m.outcome = some .matched ∧ m.start = q ∧ m.handed = q + 1 := by
  rw [r3_e3]
  have l := (Leads.step rfl (b_branch T q seen)).trans ((Leads.step rfl (e3_lit_yes T q _ 12 q q true _ 2 13 (by decide) rfl rfl hq h1)).trans
    ((Leads.step rfl (e3_lit_no T q _ 14 (q + 1) q true _ 2 10 (by decide) rfl rfl h2)).trans
    ((Leads.step rfl (b_fail1 T q _ _ _)).trans ((Leads.step rfl (e3_lit_no T q _ 19 q q true _ 2 10 (by decide) rfl rfl (by rw [h1]; omega))).trans
    ((Leads.step rfl (b_fail2 T q _ _ _)).trans ((Leads.step rfl (e3_lit_yes T q _ 24 q q true _ 2 13 (by decide) rfl rfl hq h1)).trans
    ((Leads.step rfl (b_look T q _)).trans ((Leads.step rfl (e3_lit_no T q _ 29 (q + 1) (q + 1) false _ 3 10 (by decide) rfl rfl h2)).trans
    ((Leads.step rfl (b_lookback T q _ _ _ _)).trans ((Leads.step rfl (b_jump3 T q _ _ 2 (q + 1))).trans (b_success T q _ (q + 1) (q + 1) 23)))))))))))
  exact ⟨_, _, l, by omega, rfl, rfl, rfl⟩
end

/-- where a line end stands -/
noncomputable def findE (T : Array Nat) : Nat → Nat → Option Nat
  | 0, _ => none
  | f + 1, p => if p < T.size then (if T.getD p 0 = 10 ∨ T.getD p 0 = 13 then some p else findE T f (p + 1)) else none
theorem inSet3 (c : Nat) (seen : Seen) : ∃ seen', inSet reC3 c 36 5 true seen = .ok (decide (c = 10 ∨ c = 13), seen') := by
  have e : inSet reC3 c 36 5 true seen = (if (c == 10) = true then .ok (true, seen.add 16) else (if (c == 13) = true then .ok (true, (seen.add 16).add 16) else .ok (false, ((seen.add 16).add 16).add 0))) := rfl
  rw [e]
  by_cases h1 : c = 10
  · exact ⟨_, by rw [if_pos (by simpa using h1)]; simp [h1]; rfl⟩
  · rw [if_neg (by simpa using h1)]
    by_cases h2 : c = 13
    · exact ⟨_, by rw [if_pos (by simpa using h2)]; simp [h2]; rfl⟩
    · exact ⟨_, by rw [if_neg (by simpa using h2)]; simp [h1, h2]; rfl⟩
theorem admitted3 (m : M) (hc : m.code = reC3) (hl : m.lim = m.text.size) : ∀ (f p : Nat) (seen : Seen), ∃ seen', M.admitted m f p seen = .ok (findE m.text f p, seen')
  | 0, p, seen => ⟨seen, rfl⟩
  | f + 1, p, seen => by
    unfold M.admitted findE
    by_cases hp : p < m.text.size
    · rw [if_neg (by omega), if_pos hp, hc]
      obtain ⟨seen', e⟩ := inSet3 (m.text.getD p 0) seen
      rw [show reC3.size = 36 from rfl, e]
      by_cases hd : m.text.getD p 0 = 10 ∨ m.text.getD p 0 = 13
      · rw [if_pos hd, decide_eq_true hd]
        exact ⟨_, rfl⟩
      · rw [if_neg hd, decide_eq_false hd]
        exact admitted3 m hc hl f (p + 1) seen'
    · rw [if_pos (by omega), if_neg hp]
      exact ⟨_, rfl⟩
/-- how long a line end is -/
noncomputable def endLen (T : Array Nat) (q : Nat) : Nat := if T.getD q 0 = 13 ∧ q + 1 < T.size ∧ T.getD (q + 1) 0 = 10 then 2 else 1
theorem findE_is (T : Array Nat) : ∀ (f p q : Nat), findE T f p = some q → q < T.size ∧ (T.getD q 0 = 10 ∨ T.getD q 0 = 13)
  | 0, p, q, h => nomatch h
  | f + 1, p, q, h => by
    unfold findE at h
    by_cases hp : p < T.size
    · rw [if_pos hp] at h
      by_cases hd : T.getD p 0 = 10 ∨ T.getD p 0 = 13
      · rw [if_pos hd] at h; cases h; exact ⟨hp, hd⟩
      · rw [if_neg hd] at h; exact findE_is T f (p + 1) q h
    · rw [if_neg hp] at h; cases h
theorem hs3 (m : M) (h : m.code = reC3) : m.hasFirstSet = true := by
  unfold M.hasFirstSet
  rw [h]
  rfl
theorem r3_all (T : Array Nat) (p : Nat) : ∃ n m, Leads (forSearch reC3 T 0 p T.size false) n m ∧ n ≤ 40 ∧
    match findE T (T.size + 1 - p) p with
    | some q => m.outcome = some .matched ∧ m.start = q ∧ m.handed = q + endLen T q
    | none => m.outcome = some .failed := by
  by_cases hp : p < T.size
  · have e : (decide (p > T.size) || decide (T.size - p < (header reC3).1)) = false := by
      have : (header reC3).1 = 1 := rfl
      rw [this]
      simp; omega
    have e2 : forSearch reC3 T 0 p T.size false = M.attemptFrom { code := reC3, text := T, lim := T.size, start := p, lastStart := T.size, pc := 10, pos := p, handed := p, marks := #[], seen := ({} : Seen).add 14 } p true := by
      unfold forSearch
      simp only [e]
      rfl
    obtain ⟨seen', ea⟩ := admitted3 { code := reC3, text := T, lim := T.size, start := p, lastStart := T.size, pc := 10, pos := p, handed := p, marks := #[], seen := ({} : Seen).add 14 } rfl rfl (T.size + 1 - p) p (({} : Seen).add 14)
    rw [e2]
    unfold M.attemptFrom
    rw [if_neg (by rw [hs3 _ rfl]; exact Bool.false_ne_true)]
    simp only [] at ea ⊢
    rw [ea]
    cases hf : findE T (T.size + 1 - p) p with
    | none =>
      simp only []
      exact ⟨_, _, Leads.step rfl rfl, by omega, rfl⟩
    | some q =>
      simp only []
      obtain ⟨hq, hd⟩ := findE_is T _ _ _ hf
      unfold endLen
      rcases hd with hd | hd
      · rw [if_neg (by rw [hd]; omega)]
        exact r3_b T q seen' hq hd
      · by_cases h2 : q + 1 < T.size ∧ T.getD (q + 1) 0 = 10
        · rw [if_pos ⟨hd, h2⟩]
          exact r3_a T q seen' h2.1 hd h2.2
        · rw [if_neg (fun h => h2 h.2)]
          exact r3_c T q seen' hq hd h2
  · have e : (decide (p > T.size) || decide (T.size - p < (header reC3).1)) = true := by
      have : (header reC3).1 = 1 := rfl
      rw [this]
      simp; omega
    have hf : findE T (T.size + 1 - p) p = none := by
      cases q : T.size + 1 - p with
      | zero => rfl
      | succ f => unfold findE; rw [if_neg hp]
    rw [hf]
    unfold forSearch
    simp only [e]
    exact ⟨_, _, Leads.step rfl rfl, by omega, rfl⟩
end Mine
end
section
open PySem.W in
example : True := by
  w_top off
  trivial
open PySem PySem.W PyProof.Rows PySem.Calls
set_option maxRecDepth 100000
set_option maxHeartbeats 16000000
namespace Mine
open PySem.Builtin PySem.Builtin.Re
theorem wp_drive {M : Model} {A : Around} {E : Value → Shared → Prop} {s : Shared} {Q : Sre.M → Shared → Prop} : ∀ (turns n : Nat) (m m' : Sre.M), Leads m n m' → m'.outcome.isSome = true → n + 4 ≤ 4 * turns → Q m' s → wpAny M A (reDrive turns m) Q E s
  | 0, n, m, m', _, _, h, _ => by omega
  | turns + 1, n, m, m', hl, ho, h, hq => by
    unfold reDrive
    by_cases hn : n ≤ 4
    · have e : m.runFor reTurnSteps = m' := by
        show m.runFor 4 = m'
        rw [show 4 = n + (4 - n) from by omega, runFor_add, hl, runFor_done _ ho]
      simp only [e]
      rw [if_pos ho]
      exact wpAny_pure hq
    · have hl2 : Leads (m.runFor reTurnSteps) (n - 4) m' := by
        have : m.runFor n = m' := hl
        rw [show n = 4 + (n - 4) from by omega, runFor_add] at this
        exact this
      by_cases ho2 : (m.runFor reTurnSteps).outcome.isSome = true
      · have e : m.runFor reTurnSteps = m' := by
          have := hl2
          unfold Leads at this
          rw [runFor_done _ ho2] at this
          exact this
        simp only [e]
        rw [if_pos ho]
        exact wpAny_pure hq
      · simp only []
        rw [if_neg ho2]
        exact wpAny_bind (wpAny_rule (wp_drive turns (n - 4) _ m' hl2 ho (by omega) hq))
theorem wp_runToEnd {M : Model} {A : Around} {E : Value → Shared → Prop} {s : Shared} {Q : Option Sre.M → Shared → Prop} {n : Nat} {m m' : Sre.M} (hl : Leads m n m') (hn : n ≤ 2 ^ 60)
    (h : (m'.outcome = some .matched ∧ Q (some m') s) ∨ (m'.outcome = some .failed ∧ Q none s)) : wpAny M A (reRunToEnd m) Q E s := by
  unfold reRunToEnd
  have ho : m'.outcome.isSome = true := by rcases h with h | h <;> rw [h.1] <;> rfl
  refine wpAny_bind (wp_drive (2 ^ 64) n m m' hl ho (by omega) ?_)
  refine wpAny_bind (wpAny_forIn_list _ (fun _ _ s' => s' = s) _ ?_ ?_ _ _ rfl)
  · intro x rest b s' e
    subst e
    by_cases hx : m'.seen.has x = true
    · rw [if_pos hx]
      exact wpAny_bind (wpAny_rule (wpAny_pure rfl))
    · rw [if_neg hx]
      exact wpAny_pure rfl
  · intro b s' e
    subst e
    rcases h with h | h
    · rw [h.1]; exact wpAny_pure h.2
    · rw [h.1]; exact wpAny_pure h.2

theorem entry_subloop : entryFor table "re.Pattern.sub.loop" = some Builtin.«re.Pattern.sub.loop» := entryFor_of_tree (by kernel_rfl)
theorem plain_subloop : plainId "re.Pattern.sub.loop" = true := by decide +kernel
theorem entry_sub : entryFor table "re.Pattern.sub" = some Builtin.«re.Pattern.sub» := entryFor_of_tree (by kernel_rfl)
theorem slot_pat_sub : Slot "re.Pattern" "sub" "re.Pattern.sub" :=
  .of (owner := "re.Pattern") (n := "sub") (by rw [typeLookup_type, builtinLookup_eq_fast]; kernel_rfl) (by decide +kernel) (by decide +kernel) (by decide +kernel)
    (by first | exact .inl (by decide +kernel) | exact .inr (by decide +kernel)) (by rw [isSubtype_type]; kernel_rfl)
theorem plainAttrs_pat : PlainAttrs "re.Pattern" := ⟨⟨"object.__getattribute__", by rw [typeLookup_type, builtinLookup_eq_fast]; kernel_rfl, by decide +kernel⟩, by rw [typeLookup_type, builtinLookup_eq_fast]; kernel_rfl⟩
theorem type_pat_sub : typeOf (.builtin "re.Pattern.sub") = pure (.type "method_descriptor") := by show builtinType _ = _; rw [builtinType_eq_fast]; kernel_rfl
theorem args_pat_sub (a b c : Value) : argsOk "re.Pattern.sub" ⟨[a, b, c], []⟩ := by unfold argsOk; kernel_rfl

/-- a compiled pattern stands at P -/
noncomputable def PatAt (h : Heap) (P : Addr) (C : Array Nat) (kind : Int) : Prop :=
  ∃ (pv fl : Value) (Ct : Addr) (sl sl' : Array (Option Value)) (k : Nat), h.get? P = some ⟨.type "re.Pattern", none, .fields #[pv, fl, .int 0 0, .none, .none, .ref Ct, .int kind 0], sl⟩ ∧
    h.get? Ct = some ⟨.type "tuple", none, .seq (C.map fun (n : Nat) => Value.int (n : Int) 0) k, sl'⟩
theorem PatAt.keeps {h h' : Heap} {P : Addr} {C : Array Nat} {kind : Int} (p : PatAt h P C kind) (st : h.StaysIn h') : PatAt h' P C kind :=
  let ⟨pv, fl, Ct, sl, sl', k, a, b⟩ := p; ⟨pv, fl, Ct, sl, sl', k, st _ _ a, st _ _ b⟩

/-- what the pattern with the words C finds in T from each place -/
structure Finds (C T : Array Nat) (nx : Nat → Option (Nat × Nat)) : Prop where
  run : ∀ st, st ≤ T.size → ∃ n m, Leads (Sre.forSearch C T 0 st T.size false) n m ∧ n ≤ 2 ^ 60 ∧ match nx st with
    | some (p, e) => m.outcome = some .matched ∧ m.start = p ∧ m.handed = e
    | none => m.outcome = some .failed
  wf : ∀ st p e, st ≤ T.size → nx st = some (p, e) → st ≤ p ∧ p < e ∧ e ≤ T.size
/-- what stands behind the place st when each find is replaced by r -/
structure Subst (T : Array Nat) (nx : Nat → Option (Nat × Nat)) (r : List Nat) (out : Nat → List Nat) : Prop where
  none : ∀ st, st ≤ T.size → nx st = none → out st = T.toList.drop st
  some : ∀ st p e, st ≤ T.size → nx st = some (p, e) → out st = (T.toList.drop st).take (p - st) ++ r ++ out e

theorem words_back (C : Array Nat) : ((C.map fun (n : Nat) => Value.int (n : Int) 0).map reRawOf).map (fun (i : Int) => i.toNat) = C := by
  rw [Array.map_map, Array.map_map]
  have : ((fun (i : Int) => i.toNat) ∘ reRawOf) ∘ (fun (n : Nat) => Value.int n 0) = _root_.id := by
    funext n
    show ((n : Nat) : Int).toNat = n
    simp
  rw [this]
  simp

section
variable {M : Model} {A : Around} {E : Value → Shared → Prop} {s : Shared} {P : Addr} {C : Array Nat} {x : Str} {t : Tok}
theorem whole_str {Q : ReTarget → Shared → Prop} (p : PatAt s.heap P C 0) (h : Q ⟨.ref P, .str x t, C, x.cps, 0, 0, 0, x.cps.size⟩ s) : wpAny M A (reWholeTarget (.ref P) (.str x t)) Q E s := by
  obtain ⟨pv, fl, Ct, sl, sl', k, hP, hC⟩ := p
  unfold reWholeTarget
  refine wpAny_bind (wpAny_fieldsOf hP rfl ?_)
  refine wpAny_bind (m := reTextOf (.str x t)) (wpAny_of_eq (a := (x.cps, 0)) rfl ?_)
  refine wpAny_bind (m := reNoCollectionInside (.str x t) 0) (wpAny_of_eq (a := ()) rfl ?_)
  refine wpAny_bind ?_
  unfold reRawItems
  refine wpAny_bind (wpAny_seqItems hC rfl ?_)
  refine wpAny_pure ?_
  show wpAny M A (pure { pattern := .ref P, string := .str x t, code := ((C.map fun (n : Nat) => Value.int (n : Int) 0).map reRawOf).map (fun (i : Int) => i.toNat), text := x.cps, kind := 0, groups := 0, pos := 0, lim := x.cps.size }) Q E s
  rw [words_back]
  exact wpAny_pure h
end
end Mine
end
section
open PySem.W in
example : True := by
  w_top off
  trivial
open PySem PySem.W PyProof.Rows PySem.Calls
set_option maxRecDepth 100000
set_option maxHeartbeats 16000000
namespace Mine
open PySem.Builtin PySem.Builtin.Re
noncomputable def textsOf (xs : List (Str × Tok)) : List Nat := (xs.map (·.1.cps.toList)).flatten
theorem textsOf_append (xs : List (Str × Tok)) (y : Str) (t : Tok) : textsOf (xs ++ [(y, t)]) = textsOf xs ++ y.cps.toList := by
  unfold textsOf
  simp
theorem strValues_push (xs : List (Str × Tok)) (y : Str) (t : Tok) : (strValues xs).toArray.push (.str y t) = (strValues (xs ++ [(y, t)])).toArray := by
  unfold strValues
  simp
theorem join_texts : ∀ (ts : List Str), (Str.join ⟨#[]⟩ ts).cps.toList = (ts.map (·.cps.toList)).flatten
  | [] => rfl
  | [x] => by simp [Str.join]
  | x :: y :: r => by
    have ih := join_texts (y :: r)
    show (x ++ ⟨#[]⟩ ++ Str.join ⟨#[]⟩ (y :: r)).cps.toList = _
    rw [Str.cps_append, Str.cps_append, Array.toList_append, ih]
    simp
theorem join_textsOf (xs : List (Str × Tok)) : Txt.join ⟨#[]⟩ (xs.map (·.1)) = ⟨(textsOf xs).toArray⟩ := by
  have e : (Txt.join ⟨#[]⟩ (xs.map (·.1))).cps.toList = textsOf xs := by
    unfold Txt.join
    rw [StrLaws.glued_eq_join, join_texts]
    unfold textsOf
    rw [List.map_map]
    rfl
  rw [← e]
theorem joinOk_textsOf (xs : List (Str × Tok)) (h : (textsOf xs).length ≤ 8000000) : JoinOk ⟨#[]⟩ (xs.map (·.1)) = true := by
  have key : ∀ (ts : List Str) (a : Nat), ts.foldl (fun n s => n + s.length + (⟨#[]⟩ : Str).length) a = a + ((ts.map (·.cps.toList)).flatten).length := by
    intro ts
    induction ts with
    | nil => intro a; rfl
    | cons y ts ih =>
      intro a
      rw [List.foldl_cons, ih]
      have : (⟨#[]⟩ : Str).length = 0 := rfl
      rw [this]
      have : y.length = y.cps.toList.length := by simp [Str.length]
      rw [this]
      simp
      omega
  unfold JoinOk Builtin.Str.tooLong
  rw [List.foldl_toArray, key]
  have e : ((xs.map (·.1)).map (·.cps.toList)).flatten = textsOf xs := by
    unfold textsOf
    rw [List.map_map]
    rfl
  rw [e]
  rw [sizeLine_eq]
  simp
  omega
theorem mapSeq_push (xs : List (Str × Tok)) (y : Str) (t : Tok) (k : Nat) (sl : Array (Option Value)) : ∃ k', Obj.mapSeq (·.push (.str y t)) ⟨.type "list", none, .seq (strValues xs).toArray k, sl⟩ = ⟨.type "list", none, .seq (strValues (xs ++ [(y, t)])).toArray k', sl⟩ := by
  unfold Obj.mapSeq
  simp only [strValues_push]
  exact ⟨_, rfl⟩
theorem wp_push {M : Model} {A : Around} {E : Value → Shared → Prop} {s : Shared} {l : Addr} {base : Heap} {xs : List (Str × Tok)} {y : Str} {t : Tok} {k : Nat} {sl : Array (Option Value)} {Q : Unit → Shared → Prop}
    (hL : s.heap.get? l = some ⟨.type "list", none, .seq (strValues xs).toArray k, sl⟩) (hl : base.get? l = none) (hS : base.StaysIn s.heap) (hn : xs.length ≤ 16000000)
    (h : ∀ h' k', base.StaysIn h' → h'.get? l = some ⟨.type "list", none, .seq (strValues (xs ++ [(y, t)])).toArray k', sl⟩ → Q () { s with heap := h' }) :
    wpAny M A (updateSeq l (·.push (.str y t))) Q E s := by
  have hz : (strValues xs).toArray.size ≤ sizeLine := by rw [sizeLine_eq]; simp [strValues]; omega
  have hz2 : ((strValues xs).toArray.push (.str y t)).size ≤ sizeLine + 1 := by rw [sizeLine_eq]; simp [strValues]; omega
  refine wpAny_updateSeq (f := fun a => a.push (.str y t)) hL rfl ?_ hz hz2
  obtain ⟨k', e⟩ := mapSeq_push xs y t k sl
  refine h _ k' (fun b o hb => ?_) ?_
  · have : b ≠ l := fun q => by rw [q, hl] at hb; cases hb
    exact (Heap.get?_update_ne _ _ _ _ this).trans (hS b o hb)
  · have := Heap.get?_update_self (Obj.mapSeq fun a => a.push (.str y t)) hL (by rw [e]; rfl)
    rw [this, e]
theorem extract_list (T : Array Nat) (a b : Nat) : (T.extract a b).toList = (T.toList.drop a).take (b - a) := by
  rw [Array.toList_extract, List.extract_eq_take_drop]

theorem sub_end_str {prog : Program} {w : World} {A A₁ : Around} {R : Result → Shared → Prop} {s : Shared} {l : Addr} {base : Heap} {final : List Nat} {xs : List (Str × Tok)} {k : Nat} {sl : Array (Option Value)} {T : Array Nat} {n : Int}
    (hS : base.StaysIn s.heap) (hL : s.heap.get? l = some ⟨.type "list", none, .seq (strValues xs).toArray k, sl⟩) (hT : textsOf xs = final) (hfin : final.length ≤ 8000000)
    (hR : ∀ t' h' tk', base.StaysIn h' → R (.ok (.ret (.str ⟨final.toArray⟩ t'))) { s with heap := h', toks := tk' }) :
    wpAny (model prog w) A (do
      let joiner ← mkStr ⟨T.extract 0 0⟩
      let items ← seqItems? (.ref l)
      let jp : Value → Sem PySem.Fin := fun text => if false = true then (do let v ← holding [text] (do let v ← mkInt n; newTuple [text, v]); ret v) else ret text
      if (items.getD #[]).isEmpty = true then (do let text ← pure joiner; jp text) else (do let text ← call (.builtin "str.join") [joiner, .ref l]; jp text))
      (fun fin s' => match fin with | .done f => R (.ok f) s' | .again c' => c'.quiet = true ∧ codeAny (model prog w) A₁ c' R s') (fun e s' => R (.error e) s') s := by
  have e0 : (⟨T.extract 0 0⟩ : Str) = ⟨#[]⟩ := by simp
  rw [e0]
  refine wpAny_bind (wpAny_mkStr ?_ (Nat.zero_le _))
  refine wpAny_bind (wpAny_seqItems hL rfl ?_)
  simp only [Bool.false_eq_true, if_false, Option.getD_some]
  by_cases hx : xs = []
  · subst hx
    rw [if_pos (show (strValues []).toArray.isEmpty = true from rfl)]
    refine wpAny_bind (wpAny_pure (wpAny_pure ?_))
    rw [show final = [] from hT.symm] at hR
    exact hR _ _ _ hS
  · rw [if_neg (by cases xs with
      | nil => exact absurd rfl hx
      | cons p r => simp [strValues])]
    have hk := joinOk_textsOf xs (by rw [hT]; exact hfin)
    refine wpAny_bind (SC.join (l := xs) (texts := xs.map (·.1)) ⟨_, hL, rfl, _, rfl⟩ rfl hk fun t' k' => wpAny_pure ?_)
    rw [join_textsOf, hT]
    exact hR _ _ _ hS

theorem sub_loop_str {prog : Program} {w : World} {R : Result → Shared → Prop} {s₀ : Shared} {P l : Addr} {C : Array Nat} {x r : Str} {t tr : Tok} {nx : Nat → Option (Nat × Nat)} {out : Nat → List Nat} {base : Heap} {final : List Nat}
    (hP : PatAt base P C 0) (hl : base.get? l = none) (F : Finds C x.cps nx) (B : Subst x.cps nx r.cps.toList out) (hx : x.cps.size ≤ 4000000) (hfin : final.length ≤ 8000000)
    (hR : ∀ t' h' tk', base.StaysIn h' → R (.ok (.ret (.str ⟨final.toArray⟩ t'))) { s₀ with heap := h', toks := tk' }) :
    ∀ (d st : Nat) (n : Int) (xs : List (Str × Tok)) (k : Nat) (sl : Array (Option Value)) (h : Heap) (tk : Nat), x.cps.size - st = d → st ≤ x.cps.size → base.StaysIn h →
      h.get? l = some ⟨.type "list", none, .seq (strValues xs).toArray k, sl⟩ → textsOf xs ++ out st = final → xs.length ≤ 2 * st →
      ∀ A, codeAny (model prog w) A (.builtin "re.Pattern.sub.loop" ⟨[.ref P, .str x t, .str r tr, rawInt 0, rawInt 0, rawInt n, rawInt st, rawInt st, .bool false, .ref l, .bool false], []⟩) R { s₀ with heap := h, toks := tk } := by
  intro d
  induction d using Nat.strongRecOn with
  | ind d ih =>
  intro st n xs k sl h tk hd hst hS hL hT hn A
  refine codeAny_builtin entry_subloop ?_
  generalize A.under _ = A'
  show wpAny _ _ (reWholeTarget (.ref P) (.str x t) >>= fun t => _) _ _ _
  refine wpAny_bind (whole_str (hP.keeps hS) ?_)
  dsimp only
  show wpAny _ _ (reLiteralCannotBeTurned (.str r tr) >>= fun _ => _) _ _ _
  refine wpAny_bind (m := reLiteralCannotBeTurned (.str r tr)) (wpAny_of_eq (a := ()) rfl ?_)
  show wpAny _ _ (reRunToEnd (Sre.forSearch C x.cps 0 st x.cps.size false) >>= fun r => _) _ _ _
  obtain ⟨n', m, hm, hn', hcase⟩ := F.run st hst
  cases hnx : nx st with
  | none =>
    rw [hnx] at hcase
    refine wpAny_bind (wp_runToEnd hm hn' (.inr ⟨hcase, ?_⟩))
    rw [B.none st hst hnx] at hT
    dsimp only
    by_cases hlt : st < x.cps.size
    · rw [if_pos (show ((st : Int)).toNat < x.cps.size from hlt)]
      show wpAny _ _ (mkStr ⟨x.cps.extract st x.cps.size⟩ >>= fun v => updateSeq l (·.push v) >>= fun _ => _) _ _ _
      refine wpAny_bind (wpAny_mkStr ?_ (by rw [sizeLine_eq]; show (x.cps.extract st x.cps.size).size ≤ _; simp; omega))
      refine wpAny_bind (wp_push hL hl hS (by omega) fun h' k' hS' hL' => ?_)
      refine sub_end_str (s := { s₀ with heap := h', toks := _ }) (T := x.cps) hS' hL' ?_ hfin fun t' h' tk' => hR t' h' tk'
      rw [textsOf_append, extract_list, ← hT]
      congr 1
      exact List.take_of_length_le (by simp)
    · rw [if_neg (show ¬ ((st : Int)).toNat < x.cps.size from hlt)]
      refine sub_end_str (s := { s₀ with heap := h, toks := _ }) (T := x.cps) hS hL ?_ hfin fun t' h' tk' => hR t' h' tk'
      rw [← hT, List.drop_of_length_le (by simp; omega), List.append_nil]
  | some pe =>
    obtain ⟨p, e⟩ := pe
    rw [hnx] at hcase
    obtain ⟨ho, hp, he⟩ := hcase
    obtain ⟨w1, w2, w3⟩ := F.wf st p e hst hnx
    refine wpAny_bind (wp_runToEnd hm hn' (.inl ⟨ho, ?_⟩))
    rw [B.some st p e hst hnx] at hT
    dsimp only
    rw [hp, he]
    have hne : (e == p) = false := by simp; omega
    have step : ∀ (xs' : List (Str × Tok)) (k' : Nat) (h' : Heap) (tk' : Nat), base.StaysIn h' → h'.get? l = some ⟨.type "list", none, .seq (strValues xs').toArray k', sl⟩ → textsOf xs' ++ (r.cps.toList ++ out e) = final → xs'.length ≤ 2 * st + 1 →
        wpAny (model prog w) A' (do
          let item ← (pure (Value.str r tr) : Sem Value)
          let _ ← updateSeq l (·.push item)
          again (.builtin "re.Pattern.sub.loop" ⟨[.ref P, .str x t, .str r tr, rawInt 0, rawInt 0, rawInt (n + 1), rawInt e, rawInt e, .bool (e == p), .ref l, .bool false], []⟩))
          (fun fin s' => match fin with | .done f => R (.ok f) s' | .again c' => c'.quiet = true ∧ codeAny (model prog w) A c' R s') (fun e s' => R (.error e) s') { s₀ with heap := h', toks := tk' } := by
      intro xs' k' h' tk' hS' hL' hT' hn2
      refine wpAny_bind (wpAny_pure ?_)
      refine wpAny_bind (wp_push hL' hl hS' (by omega) fun h'' k'' hS'' hL'' => ?_)
      rw [hne]
      refine wpAny_pure ⟨plainId_quiet plain_subloop _, ?_⟩
      refine ih (x.cps.size - e) (by omega) e (n + 1) _ _ _ _ _ rfl w3 hS'' hL'' ?_ ?_ A
      · rw [textsOf_append, List.append_assoc]; exact hT'
      · rw [List.length_append]
        show xs'.length + 1 ≤ _
        omega
    by_cases hlt : st < p
    · rw [if_pos (show ((st : Int)).toNat < p from hlt)]
      show wpAny _ _ (mkStr ⟨x.cps.extract st p⟩ >>= fun v => updateSeq l (·.push v) >>= fun _ => _) _ _ _
      refine wpAny_bind (wpAny_mkStr ?_ (by rw [sizeLine_eq]; show (x.cps.extract st p).size ≤ _; simp; omega))
      refine wpAny_bind (wp_push hL hl hS (by omega) fun h' k' hS' hL' => ?_)
      refine step _ k' h' _ hS' hL' ?_ (by rw [List.length_append]; show xs.length + 1 ≤ _; omega)
      rw [textsOf_append, extract_list, ← hT]
      simp
    · rw [if_neg (show ¬ ((st : Int)).toNat < p from hlt)]
      refine step xs k h _ hS hL ?_ (by omega)
      rw [← hT]
      have : p - st = 0 := by omega
      rw [this]
      simp
end Mine
end
section
open PySem.W in
example : True := by
  w_top off
  trivial
open PySem PySem.W PyProof.Rows PySem.Calls
set_option maxRecDepth 100000
set_option maxHeartbeats 16000000
namespace Mine
open PySem.Builtin PySem.Builtin.Re
theorem str_no_call : typeLookup (.type "str") "__call__" = pure none := by rw [typeLookup_type, builtinLookup_eq_fast]; kernel_rfl
theorem PatAt.typeIs {s : Shared} {P : Addr} {C : Array Nat} {kind : Int} (p : PatAt s.heap P C kind) : s.TypeIs (.ref P) "re.Pattern" :=
  let ⟨_, _, _, _, _, _, a, _⟩ := p; ⟨_, a, rfl⟩
theorem getMethod_sub {M : Model} {A : Around} {E : Value → Shared → Prop} {s : Shared} {P : Addr} {C : Array Nat} {kind : Int} {pl : Sem Bool} {Q : Value × List Value → Shared → Prop} (p : PatAt s.heap P C kind) (h : Q (.builtin "re.Pattern.sub", [.ref P]) s) :
    wpAny M A (getMethod (.ref P) "sub" pl) Q E s :=
  getMethod_builtin p.typeIs plainAttrs_pat slot_pat_sub type_pat_sub (fun a e => by
    cases e
    obtain ⟨_, _, _, _, _, _, a, _⟩ := p
    exact ⟨_, a, rfl⟩) h
theorem call_sub_str {prog : Program} {w : World} {A : Around} {Q E : Value → Shared → Prop} {s : Shared} {P : Addr} {C : Array Nat} {x r : Str} {t tr : Tok} {nx : Nat → Option (Nat × Nat)} {out : Nat → List Nat}
    (hP : PatAt s.heap P C 0) (F : Finds C x.cps nx) (B : Subst x.cps nx r.cps.toList out) (hr : r.cps.contains 92 = false) (hx : x.cps.size ≤ 4000000) (hfin : (out 0).length ≤ 8000000)
    (hQ : ∀ t' h' tk', s.heap.StaysIn h' → Q (.str ⟨(out 0).toArray⟩ t') { s with heap := h', toks := tk' }) :
    wpAny (model prog w) A (call (.builtin "re.Pattern.sub") [.ref P, .str r tr, .str x t]) Q E s := by
  refine wpAny_call (codeAny_call_builtin slot_pat_sub.plain entry_sub (slot_pat_sub.check _ _ _ _ _ _ _ _ hP.typeIs (args_pat_sub _ _ _) ?_))
  show wpAny _ _ (reNamed "re.Pattern.sub" "sub" ["repl", "string", "count"] 2 [.str r tr, .str x t] [] >>= fun _ => _) _ _ s
  refine wpAny_bind (wpAny_of_eq (a := [some (.str r tr), some (.str x t), none]) rfl ?_)
  dsimp only
  refine wpAny_bind (wpAny_pure ?_)
  refine wpAny_bind (wpAny_specialOf (typeIs_str _ _ _) str_no_call ?_)
  show wpAny _ _ ((pure (!r.cps.contains 92) : Sem Bool) >>= fun _ => _) _ _ s
  refine wpAny_bind (wpAny_pure ?_)
  refine wpAny_bind (wpAny_pure ?_)
  rw [if_neg (show ¬ ((none : Option Value).isSome = true) from Bool.false_ne_true), if_pos (show (!r.cps.contains 92) = true by rw [hr]; rfl)]
  refine wpAny_bind (wpAny_pure ?_)
  dsimp only
  refine wpAny_bind (wpAny_holding (whole_str hP ?_))
  rw [if_neg (by decide)]
  have hnew : s.heap.get? s.heap.objs.size = none := by
    cases q : s.heap.get? s.heap.objs.size with
    | none => rfl
    | some o => exact absurd (Heap.lt_size q) (Nat.lt_irrefl _)
  refine wpAny_bind (wpAny_newObj_type ?_ (Nat.zero_le _))
  refine wpAny_pure ⟨plainId_quiet plain_subloop _, ?_⟩
  exact sub_loop_str (s₀ := s) (base := s.heap) hP hnew F B hx hfin (fun t' h' tk' st => hQ t' h' tk' st) _ 0 0 [] 0 #[] _ _ rfl (Nat.zero_le _) (fun b o hb => Heap.get?_push_of_some _ hb) (Heap.get?_push_size _ rfl) rfl (Nat.zero_le _) A
end Mine
end
section
open PySem.W in
example : True := by
  w_top off
  trivial
open PySem PySem.W PyProof.Rows PySem.Calls
set_option maxRecDepth 100000
set_option maxHeartbeats 16000000
namespace Mine
open PySem.Builtin PySem.Builtin.Re
noncomputable def byteValues (xs : List (Array UInt8 × Tok)) : List Value := xs.map fun p => .bytes p.1 p.2
noncomputable def bytesOf (xs : List (Array UInt8 × Tok)) : List UInt8 := (xs.map (·.1.toList)).flatten
theorem slot_bytes_join : Slot "bytes" "join" "bytes.join" :=
  .of (owner := "bytes") (n := "join") (by rw [typeLookup_type, builtinLookup_eq_fast]; kernel_rfl) (by decide +kernel) (by decide +kernel) (by decide +kernel)
    (by first | exact .inl (by decide +kernel) | exact .inr (by decide +kernel)) (by rw [isSubtype_type]; kernel_rfl)
theorem entry_bytes_join : entryFor table "bytes.join" = some Builtin.«bytes.join» := entryFor_of_tree (by kernel_rfl)
theorem args_bytes_join (a b : Value) : argsOk "bytes.join" ⟨[a, b], []⟩ := by unfold argsOk; kernel_rfl
theorem take_quiet (b : Array UInt8) (t : Tok) (id : String) : Bytes.takeBufferQuiet? id (.bytes b t) 0 = pure (some (b, none)) := by
  have e : Bytes.takeBuffer? id (.bytes b t) 0 = pure (some (b, none)) := by
    unfold Bytes.takeBuffer?
    rw [KBy.special_eq KBy.look_buffer, KBy.own_buffer]
    show (Bytes.buffer? id (.bytes b t) false >>= fun r => pure (r.map (·, none))) = _
    rw [KBy.buffer_eq]
    rfl
  unfold Bytes.takeBufferQuiet?
  rw [e]
  rfl
section
variable {prog : Program} {w : World} {A : Around} {E : Value → Shared → Prop} {s : Shared} {t : Tok} {Q : Value → Shared → Prop}
/-- the loop's state behind the items xs -/
noncomputable def JB (xs : List (Array UInt8 × Tok)) (rest : List Nat) (b : Array (Array UInt8) × List (Value × Option Value)) : Prop :=
  ∃ i, rest = List.range' i (xs.length - i) ∧ i ≤ xs.length ∧ b.1.toList = (xs.take i).map (·.1) ∧ ∀ p ∈ b.2, (∃ c u, p.1 = .bytes c u) ∧ p.2 = none
theorem jb_any {xs : List (Array UInt8 × Tok)} {rest : List Nat} {b : Array (Array UInt8) × List (Value × Option Value)} (h : JB xs rest b) : (b.2.any fun p => p.1.onHeap) = false := by
  obtain ⟨_, _, _, _, h⟩ := h
  rw [List.any_eq_false]
  intro p hp
  obtain ⟨⟨c, u, e⟩, _⟩ := h p hp
  rw [e]
  exact Bool.false_ne_true
theorem letGo_bytes {M : Model} {A : Around} {E : Value → Shared → Prop} {s : Shared} {Q : Unit → Shared → Prop} : ∀ (l : List (Value × Option Value)) (keep : List Value), (∀ p ∈ l, p.2 = none) → Q () s → wpAny M A (Bytes.joinLetGo l keep) Q E s
  | [], _, _, h => wpAny_pure h
  | (x, w) :: r, keep, hl, h => by
    have e : w = none := hl _ (.head _)
    subst e
    unfold Bytes.joinLetGo
    exact wpAny_bind (wpAny_letGo (letGo_bytes r keep (fun p hp => hl p (.tail _ hp)) h))
theorem joined_empty (ps : List (Array UInt8)) : Bytes.joined #[] ps = (ps.map (·.toList)).flatten.toArray := by
  have key : ∀ (ps : List (Array UInt8)) (k : Nat) (acc : Array UInt8), ((ps.zipIdx k).foldl (fun out (x : Array UInt8 × Nat) => (if x.2 > 0 then out ++ #[] else out) ++ x.1) acc) = acc ++ (ps.map (·.toList)).flatten.toArray := by
    intro ps
    induction ps with
    | nil => intro k acc; simp
    | cons p r ih =>
      intro k acc
      rw [List.zipIdx_cons, List.foldl_cons, ih]
      have : (if k > 0 then acc ++ #[] else acc) = acc := by split <;> simp
      rw [this]
      apply Array.ext'
      simp
  have := key ps 0 #[]
  rw [Array.empty_append] at this
  exact this
theorem long_sum (ps : List (Array UInt8)) (a : Nat) : (ps.foldl (fun n p => n + p.size) a) = a + ((ps.map (·.toList)).flatten).length := by
  induction ps generalizing a with
  | nil => rfl
  | cons p r ih => rw [List.foldl_cons, ih]; simp; omega
theorem join_bytes {l : Addr} {xs : List (Array UInt8 × Tok)} {k : Nat} {sl : Array (Option Value)} (hL : s.heap.get? l = some ⟨.type "list", none, .seq (byteValues xs).toArray k, sl⟩) (hsz : (bytesOf xs).length ≤ 8000000)
    (h : ∀ t' k', Q (.bytes (bytesOf xs).toArray t') { s with toks := k' }) : wpAny (model prog w) A (call (.builtin "bytes.join") [.bytes #[] t, .ref l]) Q E s := by
  refine wpAny_call (codeAny_call_builtin slot_bytes_join.plain entry_bytes_join (slot_bytes_join.check _ _ _ _ _ _ _ _ (typeIs_bytes _ _ _) (args_bytes_join _ _) ?_))
  show wpAny _ _ (Bytes.joinM .bytes ⟨[.bytes #[] t, .ref l], []⟩) _ _ s
  show wpAny _ _ (PySem.selfAndOne "bytes.join" ⟨[.bytes #[] t, .ref l], []⟩ >>= fun _ => _) _ _ s
  refine wpAny_bind (wpAny_of_eq (a := (.bytes #[] t, .ref l)) rfl ?_)
  dsimp only
  show wpAny _ _ (Bytes.joinItems (.ref l) >>= fun _ => _) _ _ s
  have hT : s.TypeIs (.ref l) "list" := ⟨_, hL, rfl⟩
  refine wpAny_bind ?_
  unfold Bytes.joinItems
  refine wpAny_bind (wpAny_typeOf hT ?_)
  rw [if_pos (by decide)]
  refine wpAny_pure ?_
  refine wpAny_bind (wpAny_seqItems hL rfl ?_)
  dsimp only
  rw [if_pos (show (Bytes.Kind.bytes == Bytes.Kind.bytes) = true from rfl)]
  generalize hit : (byteValues xs).toArray = items at *
  have go : ∀ (b0 : Array (Array UInt8) × List (Value × Option Value)), JB xs [] b0 → wpAny (model prog w) A.in1 (do
      let sep ← Bytes.payload (Value.bytes #[] t)
      if Bytes.tooLong (Array.foldl (fun x1 x2 => x1 + x2.size) (sep.size * (b0.fst.size - 1)) b0.fst) = true then do
          unsupported (toString (toString Bytes.Kind.bytes.name ++ toString ".join") ++ toString ":memory")
          let result ← Bytes.Kind.bytes.new (Bytes.joined sep b0.fst.toList)
          holding (result :: List.flatMap (fun x => x.fst :: x.snd.toList) b0.snd) point
          Bytes.joinLetGo b0.snd [result]
          ret result
        else do
          let result ← Bytes.Kind.bytes.new (Bytes.joined sep b0.fst.toList)
          holding (result :: List.flatMap (fun x => x.fst :: x.snd.toList) b0.snd) point
          Bytes.joinLetGo b0.snd [result]
          ret result)
      (fun fin s' =>
      match fin with
      | Fin.done f =>
        match Except.ok f with
        | Except.ok (Flow.ret v) => Q v s'
        | Except.ok a => False
        | Except.error e => E e s'
      | Fin.again c' =>
        c'.quiet = true ∧
          codeAny (model prog w) A c'
            (fun r s' =>
              match r with
              | Except.ok (Flow.ret v) => Q v s'
              | Except.ok a => False
              | Except.error e => E e s')
            s')
    (fun e s' => E e s') s := by
    rintro b0 ⟨i, hi, hle, hb, ht⟩
    have hix : i = xs.length := by
      have := congrArg List.length hi
      simp at this
      omega
    subst hix
    rw [List.take_length] at hb
    have hcat : (b0.fst.toList.map (·.toList)).flatten = bytesOf xs := by
      rw [hb]; unfold bytesOf; rw [List.map_map]; rfl
    refine wpAny_bind (wpAny_of_eq (a := (#[] : Array UInt8)) rfl ?_)
    have hlong : Bytes.tooLong (Array.foldl (fun x1 x2 => x1 + x2.size) ((#[] : Array UInt8).size * (b0.fst.size - 1)) b0.fst) = false := by
      rw [← Array.foldl_toList, long_sum, hcat]
      apply KBy.tooLong_not
      simp
      omega
    rw [hlong, if_neg Bool.false_ne_true, joined_empty, hcat]
    refine wpAny_bind (wpAny_mkBytes ?_ (by rw [sizeLine_eq]; simp; omega))
    refine wpAny_bind (wpAny_holding (wpAny_point ?_))
    refine wpAny_bind (letGo_bytes _ _ (fun p hp => (ht p hp).2) ?_)
    exact wpAny_pure (h _ _)
  obtain ⟨li⟩ := items
  have hli : li = byteValues xs := by
    have := congrArg Array.toList hit
    simpa using this.symm
  rcases li with _ | ⟨x, _ | ⟨y, r⟩⟩
  rotate_left
  · have hxs : ∃ b u, xs = [(b, u)] ∧ x = .bytes b u := by
      unfold byteValues at hli
      cases xs with
      | nil => cases hli
      | cons p r => cases r with
        | nil => exact ⟨p.1, p.2, rfl, by simpa using hli⟩
        | cons q r => simp at hli
    obtain ⟨b, u, rfl, rfl⟩ := hxs
    show wpAny _ _ (typeOf (.bytes b u) >>= _) _ _ s
    refine wpAny_bind (wpAny_typeOf (typeIs_bytes _ _ _) ?_)
    show wpAny _ _ (rule "bytes.join.one-item" >>= _) _ _ s
    refine wpAny_bind (wpAny_rule ?_)
    have := h u s.toks
    refine wpAny_pure ?_
    show Q (.bytes b u) s
    simpa [bytesOf] using this
  all_goals
    show wpAny _ _ (forIn [:_] _ _ >>= _) _ _ s
    rw [← hit] at hL ⊢
    refine wpAny_bind ?_
    rw [Std.Legacy.Range.forIn_eq_forIn_range']
    refine wpAny_forIn_list _ (fun rest b s' => s' = s ∧ JB xs rest b) _ ?_ ?_ _ _ ⟨rfl, 0, ?_, Nat.zero_le _, rfl, fun p hp => nomatch hp⟩
    · rintro i rest b s' ⟨rfl, hJ⟩
      have hany := jb_any hJ
      obtain ⟨j, hj, hle, hb, ht⟩ := hJ
      have hlt : j < xs.length := by
        have := congrArg List.length hj
        simp at this
        omega
      have hij : i = j ∧ rest = List.range' (j + 1) (xs.length - (j + 1)) := by
        rw [show xs.length - j = (xs.length - (j + 1)) + 1 from by omega, List.range'_succ] at hj
        injection hj with h1 h2
        exact ⟨h1, h2⟩
      obtain ⟨rfl, hrest⟩ := hij
      refine wpAny_bind (wpAny_seqItems hL rfl ?_)
      dsimp only
      rw [hany, if_neg (show ¬ ((Bytes.Kind.bytes == Bytes.Kind.bytearray || false) = true) from Bool.false_ne_true)]
      have hget : (byteValues xs).toArray.getD i Value.none = .bytes (xs[i]).1 (xs[i]).2 := by
        simp [byteValues, hlt]
      refine wpAny_bind (wpAny_holding ?_)
      rw [hget]
      refine wpAny_of_eq (take_quiet _ _ _) ?_
      dsimp only
      refine wpAny_bind (wpAny_seqItems hL rfl ?_)
      dsimp only
      rw [if_neg (by simp)]
      refine wpAny_pure ⟨rfl, i + 1, hrest, hlt, ?_, ?_⟩
      · rw [Array.toList_push, hb, List.take_succ_eq_append_getElem hlt, List.map_append]
        rfl
      · intro p hp
        rcases List.mem_append.mp hp with hp | hp
        · exact ht p hp
        · rw [List.mem_singleton.mp hp]
          exact ⟨⟨_, _, rfl⟩, rfl⟩
    · rintro b s' ⟨rfl, hJ⟩
      exact go b hJ
    · simp [Std.Legacy.Range.size, byteValues]
end
theorem bytesOf_append (xs : List (Array UInt8 × Tok)) (y : Array UInt8) (t : Tok) : bytesOf (xs ++ [(y, t)]) = bytesOf xs ++ y.toList := by
  unfold bytesOf
  simp
theorem byteValues_push (xs : List (Array UInt8 × Tok)) (y : Array UInt8) (t : Tok) : (byteValues xs).toArray.push (.bytes y t) = (byteValues (xs ++ [(y, t)])).toArray := by
  unfold byteValues
  simp
theorem wp_pushB {M : Model} {A : Around} {E : Value → Shared → Prop} {s : Shared} {l : Addr} {base : Heap} {xs : List (Array UInt8 × Tok)} {y : Array UInt8} {t : Tok} {k : Nat} {sl : Array (Option Value)} {Q : Unit → Shared → Prop}
    (hL : s.heap.get? l = some ⟨.type "list", none, .seq (byteValues xs).toArray k, sl⟩) (hl : base.get? l = none) (hS : base.StaysIn s.heap) (hn : xs.length ≤ 16000000)
    (h : ∀ h' k', base.StaysIn h' → h'.get? l = some ⟨.type "list", none, .seq (byteValues (xs ++ [(y, t)])).toArray k', sl⟩ → Q () { s with heap := h' }) :
    wpAny M A (updateSeq l (·.push (.bytes y t))) Q E s := by
  have hz : (byteValues xs).toArray.size ≤ sizeLine := by rw [sizeLine_eq]; simp [byteValues]; omega
  have hz2 : ((byteValues xs).toArray.push (.bytes y t)).size ≤ sizeLine + 1 := by rw [sizeLine_eq]; simp [byteValues]; omega
  refine wpAny_updateSeq (f := fun a => a.push (.bytes y t)) hL rfl ?_ hz hz2
  have e : ∃ k', Obj.mapSeq (·.push (.bytes y t)) ⟨.type "list", none, .seq (byteValues xs).toArray k, sl⟩ = ⟨.type "list", none, .seq (byteValues (xs ++ [(y, t)])).toArray k', sl⟩ := by
    unfold Obj.mapSeq
    simp only [byteValues_push]
    exact ⟨_, rfl⟩
  obtain ⟨k', e⟩ := e
  refine h _ k' (fun b o hb => ?_) ?_
  · have : b ≠ l := fun q => by rw [q, hl] at hb; cases hb
    exact (Heap.get?_update_ne _ _ _ _ this).trans (hS b o hb)
  · have := Heap.get?_update_self (Obj.mapSeq fun a => a.push (.bytes y t)) hL (by rw [e]; rfl)
    rw [this, e]

/-- the numbers of the bytes -/
noncomputable def numsB (b : Array UInt8) : Array Nat := b.map (·.toNat)
theorem numsB_back (b : Array UInt8) (i j : Nat) : ((numsB b).extract i j).map (·.toUInt8) = b.extract i j := by
  have e : ((fun x => UInt8.ofNat x) ∘ fun (x : UInt8) => x.toNat) = _root_.id := by funext x; simp
  unfold numsB
  apply Array.ext'
  simp [e]
theorem whole_bytes {M : Model} {A : Around} {E : Value → Shared → Prop} {s : Shared} {P : Addr} {C : Array Nat} {b : Array UInt8} {t : Tok} {Q : ReTarget → Shared → Prop} (p : PatAt s.heap P C 1) (h : Q ⟨.ref P, .bytes b t, C, numsB b, 1, 0, 0, (numsB b).size⟩ s) : wpAny M A (reWholeTarget (.ref P) (.bytes b t)) Q E s := by
  obtain ⟨pv, fl, Ct, sl, sl', k, hP, hC⟩ := p
  unfold reWholeTarget
  refine wpAny_bind (wpAny_fieldsOf hP rfl ?_)
  have e1 : reTextOf (.bytes b t) = pure (numsB b, 1) := by
    show (Bytes.bufferQuiet? "_sre" (.bytes b t) >>= fun r => _) = _
    rw [KBy.quiet_eq]
    rfl
  refine wpAny_bind (wpAny_of_eq e1 ?_)
  have e2 : reNoCollectionInside (.bytes b t) 1 = pure () := by
    unfold reNoCollectionInside
    rw [KBy.isInstance_eq]
    rfl
  refine wpAny_bind (m := reNoCollectionInside (.bytes b t) 1) (wpAny_of_eq e2 ?_)
  refine wpAny_bind ?_
  unfold reRawItems
  refine wpAny_bind (wpAny_seqItems hC rfl ?_)
  refine wpAny_pure ?_
  show wpAny M A (pure { pattern := .ref P, string := .bytes b t, code := ((C.map fun (n : Nat) => Value.int (n : Int) 0).map reRawOf).map (fun (i : Int) => i.toNat), text := numsB b, kind := 1, groups := 0, pos := 0, lim := (numsB b).size }) Q E s
  rw [words_back]
  exact wpAny_pure h
noncomputable def u8 (l : List Nat) : List UInt8 := l.map (·.toUInt8)
theorem u8_append (a b : List Nat) : u8 (a ++ b) = u8 a ++ u8 b := List.map_append
theorem u8_nums (b : Array UInt8) : u8 (numsB b).toList = b.toList := by
  have e : ((fun x => UInt8.ofNat x) ∘ fun (x : UInt8) => x.toNat) = _root_.id := by funext x; simp
  simp [u8, numsB, e]
theorem u8_extract (b : Array UInt8) (st p : Nat) : u8 (((numsB b).toList.drop st).take (p - st)) = (b.extract st p).toList := by
  rw [← numsB_back b st p, Array.toList_map, extract_list]
  rfl

theorem sub_end_bytes {prog : Program} {w : World} {A A₁ : Around} {R : Result → Shared → Prop} {s : Shared} {l : Addr} {base : Heap} {final : List UInt8} {xs : List (Array UInt8 × Tok)} {k : Nat} {sl : Array (Option Value)} {T : Array Nat} {n : Int}
    (hS : base.StaysIn s.heap) (hL : s.heap.get? l = some ⟨.type "list", none, .seq (byteValues xs).toArray k, sl⟩) (hT : bytesOf xs = final) (hfin : final.length ≤ 8000000)
    (hR : ∀ t' h' tk', base.StaysIn h' → R (.ok (.ret (.bytes final.toArray t'))) { s with heap := h', toks := tk' }) :
    wpAny (model prog w) A (do
      let joiner ← mkBytes ((T.extract 0 0).map (·.toUInt8))
      let items ← seqItems? (.ref l)
      let jp : Value → Sem PySem.Fin := fun text => if false = true then (do let v ← holding [text] (do let v ← mkInt n; newTuple [text, v]); ret v) else ret text
      if (items.getD #[]).isEmpty = true then (do let text ← pure joiner; jp text) else (do let text ← call (.builtin "bytes.join") [joiner, .ref l]; jp text))
      (fun fin s' => match fin with | .done f => R (.ok f) s' | .again c' => c'.quiet = true ∧ codeAny (model prog w) A₁ c' R s') (fun e s' => R (.error e) s') s := by
  have e0 : ((T.extract 0 0).map (·.toUInt8)) = #[] := by simp
  rw [e0]
  refine wpAny_bind (wpAny_mkBytes ?_ (Nat.zero_le _))
  refine wpAny_bind (wpAny_seqItems hL rfl ?_)
  simp only [Bool.false_eq_true, if_false, Option.getD_some]
  by_cases hx : xs = []
  · subst hx
    rw [if_pos (show (byteValues []).toArray.isEmpty = true from rfl)]
    refine wpAny_bind (wpAny_pure (wpAny_pure ?_))
    rw [show final = [] from hT.symm] at hR
    exact hR _ _ _ hS
  · rw [if_neg (by cases xs with
      | nil => exact absurd rfl hx
      | cons p r => simp [byteValues])]
    refine wpAny_bind (join_bytes hL (by rw [hT]; exact hfin) fun t' k' => wpAny_pure ?_)
    rw [hT]
    exact hR _ _ _ hS

theorem sub_loop_bytes {prog : Program} {w : World} {R : Result → Shared → Prop} {s₀ : Shared} {P l : Addr} {C : Array Nat} {x r : Array UInt8} {t tr : Tok} {nx : Nat → Option (Nat × Nat)} {out : Nat → List Nat} {base : Heap} {final : List UInt8}
    (hP : PatAt base P C 1) (hl : base.get? l = none) (F : Finds C (numsB x) nx) (B : Subst (numsB x) nx (numsB r).toList out) (hx : x.size ≤ 4000000) (hfin : final.length ≤ 8000000)
    (hR : ∀ t' h' tk', base.StaysIn h' → R (.ok (.ret (.bytes final.toArray t'))) { s₀ with heap := h', toks := tk' }) :
    ∀ (d st : Nat) (n : Int) (xs : List (Array UInt8 × Tok)) (k : Nat) (sl : Array (Option Value)) (h : Heap) (tk : Nat), (numsB x).size - st = d → st ≤ (numsB x).size → base.StaysIn h →
      h.get? l = some ⟨.type "list", none, .seq (byteValues xs).toArray k, sl⟩ → bytesOf xs ++ u8 (out st) = final → xs.length ≤ 2 * st →
      ∀ A, codeAny (model prog w) A (.builtin "re.Pattern.sub.loop" ⟨[.ref P, .bytes x t, .bytes r tr, rawInt 0, rawInt 0, rawInt n, rawInt st, rawInt st, .bool false, .ref l, .bool false], []⟩) R { s₀ with heap := h, toks := tk } := by
  have hsz : (numsB x).size = x.size := by simp [numsB]
  intro d
  induction d using Nat.strongRecOn with
  | ind d ih =>
  intro st n xs k sl h tk hd hst hS hL hT hn A
  refine codeAny_builtin entry_subloop ?_
  generalize A.under _ = A'
  show wpAny _ _ (reWholeTarget (.ref P) (.bytes x t) >>= fun t => _) _ _ _
  refine wpAny_bind (whole_bytes (hP.keeps hS) ?_)
  dsimp only
  show wpAny _ _ (reLiteralCannotBeTurned (.bytes r tr) >>= fun _ => _) _ _ _
  have e2 : reLiteralCannotBeTurned (.bytes r tr) = pure () := by
    unfold reLiteralCannotBeTurned
    rw [KBy.isInstance_eq]
    rfl
  refine wpAny_bind (m := reLiteralCannotBeTurned (.bytes r tr)) (wpAny_of_eq e2 ?_)
  show wpAny _ _ (reRunToEnd (Sre.forSearch C (numsB x) 0 st (numsB x).size false) >>= fun r => _) _ _ _
  obtain ⟨n', m, hm, hn', hcase⟩ := F.run st hst
  cases hnx : nx st with
  | none =>
    rw [hnx] at hcase
    refine wpAny_bind (wp_runToEnd hm hn' (.inr ⟨hcase, ?_⟩))
    rw [B.none st hst hnx] at hT
    dsimp only
    by_cases hlt : st < (numsB x).size
    · rw [if_pos (show ((st : Int)).toNat < (numsB x).size from hlt)]
      show wpAny _ _ (mkBytes (((numsB x).extract st (numsB x).size).map (·.toUInt8)) >>= fun v => updateSeq l (·.push v) >>= fun _ => _) _ _ _
      rw [numsB_back]
      refine wpAny_bind (wpAny_mkBytes ?_ (by rw [sizeLine_eq]; simp; omega))
      refine wpAny_bind (wp_pushB hL hl hS (by omega) fun h' k' hS' hL' => ?_)
      refine sub_end_bytes (s := { s₀ with heap := h', toks := _ }) (T := numsB x) hS' hL' ?_ hfin fun t' h' tk' => hR t' h' tk'
      rw [bytesOf_append, ← u8_extract, ← hT]
      congr 2
      exact List.take_of_length_le (by simp)
    · rw [if_neg (show ¬ ((st : Int)).toNat < (numsB x).size from hlt)]
      refine sub_end_bytes (s := { s₀ with heap := h, toks := _ }) (T := numsB x) hS hL ?_ hfin fun t' h' tk' => hR t' h' tk'
      rw [← hT, List.drop_of_length_le (by simp; omega)]
      exact (List.append_nil _).symm
  | some pe =>
    obtain ⟨p, e⟩ := pe
    rw [hnx] at hcase
    obtain ⟨ho, hp, he⟩ := hcase
    obtain ⟨w1, w2, w3⟩ := F.wf st p e hst hnx
    refine wpAny_bind (wp_runToEnd hm hn' (.inl ⟨ho, ?_⟩))
    rw [B.some st p e hst hnx, u8_append, u8_append, u8_nums, u8_extract] at hT
    dsimp only
    rw [hp, he]
    have hne : (e == p) = false := by simp; omega
    have step : ∀ (xs' : List (Array UInt8 × Tok)) (k' : Nat) (h' : Heap) (tk' : Nat), base.StaysIn h' → h'.get? l = some ⟨.type "list", none, .seq (byteValues xs').toArray k', sl⟩ → bytesOf xs' ++ (r.toList ++ u8 (out e)) = final → xs'.length ≤ 2 * st + 1 →
        wpAny (model prog w) A' (do
          let item ← (pure (Value.bytes r tr) : Sem Value)
          let _ ← updateSeq l (·.push item)
          again (.builtin "re.Pattern.sub.loop" ⟨[.ref P, .bytes x t, .bytes r tr, rawInt 0, rawInt 0, rawInt (n + 1), rawInt e, rawInt e, .bool (e == p), .ref l, .bool false], []⟩))
          (fun fin s' => match fin with | .done f => R (.ok f) s' | .again c' => c'.quiet = true ∧ codeAny (model prog w) A c' R s') (fun e s' => R (.error e) s') { s₀ with heap := h', toks := tk' } := by
      intro xs' k' h' tk' hS' hL' hT' hn2
      refine wpAny_bind (wpAny_pure ?_)
      refine wpAny_bind (wp_pushB hL' hl hS' (by omega) fun h'' k'' hS'' hL'' => ?_)
      rw [hne]
      refine wpAny_pure ⟨plainId_quiet plain_subloop _, ?_⟩
      refine ih ((numsB x).size - e) (by omega) e (n + 1) _ _ _ _ _ rfl w3 hS'' hL'' ?_ ?_ A
      · rw [bytesOf_append, List.append_assoc]; exact hT'
      · rw [List.length_append]
        show xs'.length + 1 ≤ _
        omega
    by_cases hlt : st < p
    · rw [if_pos (show ((st : Int)).toNat < p from hlt)]
      show wpAny _ _ (mkBytes (((numsB x).extract st p).map (·.toUInt8)) >>= fun v => updateSeq l (·.push v) >>= fun _ => _) _ _ _
      rw [numsB_back]
      refine wpAny_bind (wpAny_mkBytes ?_ (by rw [sizeLine_eq]; simp; omega))
      refine wpAny_bind (wp_pushB hL hl hS (by omega) fun h' k' hS' hL' => ?_)
      refine step _ k' h' _ hS' hL' ?_ (by rw [List.length_append]; show xs.length + 1 ≤ _; omega)
      rw [bytesOf_append, ← hT]
      simp
    · rw [if_neg (show ¬ ((st : Int)).toNat < p from hlt)]
      refine step xs k h _ hS hL ?_ (by omega)
      rw [← hT]
      have : x.extract st p = #[] := by apply Array.ext'; rw [Array.toList_extract]; simp; omega
      rw [this]
      simp
theorem bytes_no_call : typeLookup (.type "bytes") "__call__" = pure none := by rw [typeLookup_type, builtinLookup_eq_fast]; kernel_rfl
theorem call_sub_bytes {prog : Program} {w : World} {A : Around} {Q E : Value → Shared → Prop} {s : Shared} {P : Addr} {C : Array Nat} {x r : Array UInt8} {t tr : Tok} {nx : Nat → Option (Nat × Nat)} {out : Nat → List Nat}
    (hP : PatAt s.heap P C 1) (F : Finds C (numsB x) nx) (B : Subst (numsB x) nx (numsB r).toList out) (hr : r.contains 92 = false) (hx : x.size ≤ 4000000) (hfin : (out 0).length ≤ 8000000)
    (hQ : ∀ t' h' tk', s.heap.StaysIn h' → Q (.bytes (u8 (out 0)).toArray t') { s with heap := h', toks := tk' }) :
    wpAny (model prog w) A (call (.builtin "re.Pattern.sub") [.ref P, .bytes r tr, .bytes x t]) Q E s := by
  refine wpAny_call (codeAny_call_builtin slot_pat_sub.plain entry_sub (slot_pat_sub.check _ _ _ _ _ _ _ _ hP.typeIs (args_pat_sub _ _ _) ?_))
  show wpAny _ _ (reNamed "re.Pattern.sub" "sub" ["repl", "string", "count"] 2 [.bytes r tr, .bytes x t] [] >>= fun _ => _) _ _ s
  refine wpAny_bind (wpAny_of_eq (a := [some (.bytes r tr), some (.bytes x t), none]) rfl ?_)
  dsimp only
  refine wpAny_bind (wpAny_pure ?_)
  refine wpAny_bind (wpAny_specialOf (typeIs_bytes _ _ _) bytes_no_call ?_)
  show wpAny _ _ (asStr? (.bytes r tr) >>= fun _ => _) _ _ s
  refine wpAny_bind (m := asStr? (.bytes r tr)) (wpAny_of_eq (a := none) rfl ?_)
  dsimp only
  refine wpAny_bind (wpAny_of_eq KBy.quiet_eq ?_)
  dsimp only
  refine wpAny_bind (wpAny_pure ?_)
  rw [if_neg (show ¬ ((none : Option Value).isSome = true) from Bool.false_ne_true), if_pos (show (!r.contains 92) = true by rw [hr]; rfl)]
  refine wpAny_bind (wpAny_pure ?_)
  dsimp only
  refine wpAny_bind (wpAny_holding (whole_bytes hP ?_))
  rw [if_neg (by decide)]
  have hnew : s.heap.get? s.heap.objs.size = none := by
    cases q : s.heap.get? s.heap.objs.size with
    | none => rfl
    | some o => exact absurd (Heap.lt_size q) (Nat.lt_irrefl _)
  refine wpAny_bind (wpAny_newObj_type ?_ (Nat.zero_le _))
  refine wpAny_pure ⟨plainId_quiet plain_subloop _, ?_⟩
  exact sub_loop_bytes (s₀ := s) (base := s.heap) (final := u8 (out 0)) hP hnew F B hx (by unfold u8; rw [List.length_map]; exact hfin) (fun t' h' tk' st => hQ t' h' tk' st) _ 0 0 [] 0 #[] _ _ rfl (Nat.zero_le _) (fun b o hb => Heap.get?_push_of_some _ hb) (Heap.get?_push_size _ rfl) rfl (Nat.zero_le _) A
end Mine
end
section
open PySem.W in
example : True := by
  w_top off
  trivial
open PySem PySem.W PyProof.Rows PySem.Calls
set_option maxRecDepth 100000
set_option maxHeartbeats 16000000
namespace Mine
/-- every line end is CRLF -/
noncomputable def fixL : List Nat → List Nat
  | [] => []
  | 13 :: 10 :: r => 13 :: 10 :: fixL r
  | c :: r => if c = 10 ∨ c = 13 then 13 :: 10 :: fixL r else c :: fixL r
/-- a dot at a line's begin is two -/
noncomputable def quoteL : Bool → List Nat → List Nat
  | _, [] => []
  | b, c :: r => if b = true ∧ c = 46 then 46 :: 46 :: quoteL false r else c :: quoteL (c == 10) r

theorem fixL_crlf (r : List Nat) : fixL (13 :: 10 :: r) = 13 :: 10 :: fixL r := by rw [fixL]
theorem fixL_cons (c : Nat) (r : List Nat) (h : ¬ (c = 13 ∧ r.head? = some 10)) : fixL (c :: r) = if c = 10 ∨ c = 13 then 13 :: 10 :: fixL r else c :: fixL r := by
  cases r with
  | nil => simp [fixL]
  | cons d r =>
    rw [fixL]
    intro x hc hx
    injection hx with h1 h2
    exact h ⟨hc, by rw [h1]; rfl⟩

noncomputable def nx3 (T : Array Nat) (st : Nat) : Option (Nat × Nat) := (findE T (T.size + 1 - st) st).map fun q => (q, q + endLen T q)
noncomputable def nx1 (T : Array Nat) (st : Nat) : Option (Nat × Nat) := (find1 T (T.size + 1 - st) st).map fun q => (q, q + 1)

theorem findE_ge (T : Array Nat) : ∀ (f p q : Nat), findE T f p = some q → p ≤ q
  | 0, p, q, h => nomatch h
  | f + 1, p, q, h => by
    unfold findE at h
    by_cases hp : p < T.size
    · rw [if_pos hp] at h
      by_cases hd : T.getD p 0 = 10 ∨ T.getD p 0 = 13
      · rw [if_pos hd] at h; cases h; exact Nat.le_refl _
      · rw [if_neg hd] at h; have := findE_ge T f (p + 1) q h; omega
    · rw [if_neg hp] at h; cases h
theorem find1_ge (T : Array Nat) : ∀ (f p q : Nat), find1 T f p = some q → p ≤ q ∧ q < T.size
  | 0, p, q, h => nomatch h
  | f + 1, p, q, h => by
    unfold find1 at h
    by_cases hp : p < T.size
    · rw [if_pos hp] at h
      split at h
      · split at h
        · cases h; exact ⟨Nat.le_refl _, hp⟩
        · have := find1_ge T f (p + 1) q h; omega
      · have := find1_ge T f (p + 1) q h; omega
    · rw [if_neg hp] at h; cases h

theorem finds3 (T : Array Nat) : Finds reC3 T (nx3 T) where
  run := fun st _ => by
    obtain ⟨n, m, l, hn, h⟩ := r3_all T st
    refine ⟨n, m, l, by omega, ?_⟩
    unfold nx3
    cases hf : findE T (T.size + 1 - st) st with
    | none => rw [hf] at h; exact h
    | some q => rw [hf] at h; exact h
  wf := fun st p e _ h => by
    unfold nx3 at h
    cases hf : findE T (T.size + 1 - st) st with
    | none => rw [hf] at h; cases h
    | some q =>
      rw [hf] at h
      cases h
      have h1 := findE_ge T _ _ _ hf
      have h2 := findE_is T _ _ _ hf
      unfold endLen
      split <;> omega
theorem finds1 (T : Array Nat) (hT : T.size ≤ 2 ^ 40) : Finds reC1 T (nx1 T) where
  run := fun st hst => by
    by_cases hlt : st < T.size
    · obtain ⟨seen, e⟩ := r1_start T st hlt
      obtain ⟨n, m, l, hn, h⟩ := r1_all T (T.size + 1 - st) st true seen (by omega) hst
      refine ⟨n, m, by rw [e]; exact l, by omega, ?_⟩
      unfold nx1
      cases hf : find1 T (T.size + 1 - st) st with
      | none => rw [hf] at h; exact h
      | some q => rw [hf] at h; exact h
    · refine ⟨1, _, r1_short T st hlt, by omega, ?_⟩
      have hf : find1 T (T.size + 1 - st) st = none := by
        cases q : T.size + 1 - st with
        | zero => rfl
        | succ f => unfold find1; rw [if_neg hlt]
      unfold nx1
      rw [hf]
      rfl
  wf := fun st p e _ h => by
    unfold nx1 at h
    cases hf : find1 T (T.size + 1 - st) st with
    | none => rw [hf] at h; cases h
    | some q =>
      rw [hf] at h
      cases h
      have h1 := find1_ge T _ _ _ hf
      omega

theorem drop_cons (T : Array Nat) (p : Nat) (h : p < T.size) : T.toList.drop p = T.getD p 0 :: T.toList.drop (p + 1) := by
  have h' : p < T.toList.length := by simpa using h
  rw [List.drop_eq_getElem_cons h']
  simp [h]
theorem drop_none (T : Array Nat) (p : Nat) (h : ¬ p < T.size) : T.toList.drop p = [] := List.drop_of_length_le (by simp; omega)
theorem head_drop (T : Array Nat) (p : Nat) : (T.toList.drop p).head? = some 10 ↔ (p < T.size ∧ T.getD p 0 = 10) := by
  by_cases h : p < T.size
  · rw [drop_cons T p h]; simp [h]
  · rw [drop_none T p h]; simp [h]

theorem subst3 (T : Array Nat) : Subst T (nx3 T) [13, 10] (fun st => fixL (T.toList.drop st)) where
  none := fun st hst h => by
    have key : ∀ (f p : Nat), p + f = T.size + 1 → findE T f p = none → fixL (T.toList.drop p) = T.toList.drop p := by
      intro f
      induction f with
      | zero => intro p hp _; rw [drop_none T p (by omega)]; rfl
      | succ f ih =>
        intro p hp h
        unfold findE at h
        by_cases hlt : p < T.size
        · rw [if_pos hlt] at h
          by_cases hd : T.getD p 0 = 10 ∨ T.getD p 0 = 13
          · rw [if_pos hd] at h; cases h
          · rw [if_neg hd] at h
            rw [drop_cons T p hlt, fixL_cons _ _ (by omega), if_neg hd, ih (p + 1) (by omega) h]
        · rw [drop_none T p hlt]; rfl
    refine key (T.size + 1 - st) _ (by omega) ?_
    unfold nx3 at h
    cases hf : findE T (T.size + 1 - st) st with
    | none => rfl
    | some q => rw [hf] at h; cases h
  some := fun st p e hst h => by
    have key : ∀ (f p q : Nat), findE T f p = some q → fixL (T.toList.drop p) = (T.toList.drop p).take (q - p) ++ [13, 10] ++ fixL (T.toList.drop (q + endLen T q)) := by
      intro f
      induction f with
      | zero => intro p q h; cases h
      | succ f ih =>
        intro p q h
        have hge := findE_ge T _ _ _ h
        unfold findE at h
        by_cases hlt : p < T.size
        · rw [if_pos hlt] at h
          by_cases hd : T.getD p 0 = 10 ∨ T.getD p 0 = 13
          · rw [if_pos hd] at h
            cases h
            rw [Nat.sub_self, List.take_zero, List.nil_append]
            unfold endLen
            by_cases h2 : T.getD p 0 = 13 ∧ p + 1 < T.size ∧ T.getD (p + 1) 0 = 10
            · rw [if_pos h2, drop_cons T p hlt, drop_cons T (p + 1) h2.2.1, h2.1, h2.2.2, fixL_crlf]; rfl
            · rw [if_neg h2, drop_cons T p hlt, fixL_cons _ _ (by rw [head_drop]; exact h2), if_pos hd]; rfl
          · rw [if_neg hd] at h
            have hge' := findE_ge T _ _ _ h
            rw [drop_cons T p hlt, fixL_cons _ _ (by omega), if_neg hd, ih (p + 1) q h]
            rw [show q - p = (q - (p + 1)) + 1 from by omega, List.take_succ_cons]
            rfl
        · rw [if_neg hlt] at h; cases h
    unfold nx3 at h
    cases hf : findE T (T.size + 1 - st) st with
    | none => rw [hf] at h; cases h
    | some q =>
      rw [hf] at h
      cases h
      exact key _ _ _ hf
noncomputable def atLine (T : Array Nat) (p : Nat) : Bool := p == 0 || T.getD (p - 1) 0 == 10
theorem atLine_succ (T : Array Nat) (p : Nat) : atLine T (p + 1) = (T.getD p 0 == 10) := by unfold atLine; simp
theorem subst1 (T : Array Nat) : Subst T (nx1 T) [46, 46] (fun st => quoteL (atLine T st) (T.toList.drop st)) where
  none := fun st hst h => by
    have key : ∀ (f p : Nat), p + f = T.size + 1 → find1 T f p = none → quoteL (atLine T p) (T.toList.drop p) = T.toList.drop p := by
      intro f
      induction f with
      | zero => intro p hp _; rw [drop_none T p (by omega)]; cases atLine T p <;> rfl
      | succ f ih =>
        intro p hp h
        unfold find1 at h
        by_cases hlt : p < T.size
        · rw [if_pos hlt] at h
          have hno : ¬ (atLine T p = true ∧ T.getD p 0 = 46) := by
            rintro ⟨h1, h2⟩
            rw [if_pos (show (p == 0 || T.getD (p - 1) 0 == 10) = true from h1), if_pos (by rw [h2]; rfl)] at h
            cases h
          have hr : find1 T f (p + 1) = none := by
            split at h
            · split at h
              · cases h
              · exact h
            · exact h
          rw [drop_cons T p hlt]
          unfold quoteL
          rw [if_neg hno, ← atLine_succ, ih (p + 1) (by omega) hr]
        · rw [drop_none T p hlt]; cases atLine T p <;> rfl
    refine key (T.size + 1 - st) _ (by omega) ?_
    unfold nx1 at h
    cases hf : find1 T (T.size + 1 - st) st with
    | none => rfl
    | some q => rw [hf] at h; cases h
  some := fun st p e hst h => by
    have key : ∀ (f p q : Nat), find1 T f p = some q → quoteL (atLine T p) (T.toList.drop p) = (T.toList.drop p).take (q - p) ++ [46, 46] ++ quoteL (atLine T (q + 1)) (T.toList.drop (q + 1)) := by
      intro f
      induction f with
      | zero => intro p q h; cases h
      | succ f ih =>
        intro p q h
        unfold find1 at h
        by_cases hlt : p < T.size
        · rw [if_pos hlt] at h
          by_cases hy : atLine T p = true ∧ T.getD p 0 = 46
          · rw [if_pos (show (p == 0 || T.getD (p - 1) 0 == 10) = true from hy.1), if_pos (by rw [hy.2]; rfl)] at h
            cases h
            rw [Nat.sub_self, List.take_zero, List.nil_append, drop_cons T p hlt, atLine_succ, hy.2]
            conv => lhs; unfold quoteL
            rw [if_pos ⟨hy.1, rfl⟩]
            rfl
          · have hr : find1 T f (p + 1) = some q := by
              by_cases h1 : (p == 0 || T.getD (p - 1) 0 == 10) = true
              · rw [if_pos h1] at h
                by_cases h2 : (T.getD p 0 == 46) = true
                · exact absurd ⟨h1, beq_iff_eq.mp h2⟩ hy
                · rw [if_neg h2] at h; exact h
              · rw [if_neg h1] at h; exact h
            have hge' := find1_ge T _ _ _ hr
            rw [drop_cons T p hlt]
            conv => lhs; unfold quoteL
            rw [if_neg hy, ← atLine_succ, ih (p + 1) q hr]
            rw [show q - p = (q - (p + 1)) + 1 from by omega, List.take_succ_cons]
            rfl
        · rw [if_neg hlt] at h; cases h
    unfold nx1 at h
    cases hf : find1 T (T.size + 1 - st) st with
    | none => rw [hf] at h; cases h
    | some q =>
      rw [hf] at h
      cases h
      exact key _ _ _ hf
theorem fixL_len : ∀ (n : Nat) (l : List Nat), l.length ≤ n → (fixL l).length ≤ 2 * l.length := by
  intro n
  induction n with
  | zero => intro l h; cases l with | nil => simp [fixL] | cons c r => simp at h
  | succ n ih =>
    intro l h
    cases l with
    | nil => simp [fixL]
    | cons c r =>
      by_cases hc : c = 13 ∧ r.head? = some 10
      · cases r with
        | nil => simp at hc
        | cons d r =>
          have : d = 10 := by simpa using hc.2
          rw [hc.1, this, fixL_crlf]
          have := ih r (by simp at h; omega)
          simp; omega
      · rw [fixL_cons c r hc]
        have := ih r (by simp at h; omega)
        split <;> simp <;> omega
theorem quoteL_len : ∀ (l : List Nat) (b : Bool), (quoteL b l).length ≤ 2 * l.length
  | [], b => by cases b <;> simp [quoteL]
  | c :: r, b => by
    unfold quoteL
    split
    · have := quoteL_len r false; simp; omega
    · have := quoteL_len r (c == 10); simp; omega
end Mine
end
section
open PySem.W in
example : True := by
  w_top off
  trivial
open PySem PySem.W PyProof.Rows PySem.Calls
set_option maxRecDepth 100000
set_option maxHeartbeats 16000000
namespace Mine
example (w : World) : hd.heap_39 w.params = hd.heap_39 w.params ∧ PySem.Challenge.rw_xc0005_01 = PySem.Challenge.rw_xc0005_01 := by
  k_fill
  exact ⟨rfl, rfl⟩
section
variable {prog : Program} {w : World} {A : Around} {Q E : Value → Shared → Prop} {s : Shared} {P : Addr} {x r : Str} {t tr : Tok} {h₀ : Heap} {L : Addr} {m : PySem.Str → Option Value} {news : List (Addr × Obj)}
theorem sub3 (hF : Fr h₀ L s.heap m) (hN : News h₀ L s.heap news) (hP : PatAt h₀ P reC3 0) (hr : r.cps = #[13, 10]) (hx : x.cps.size ≤ 4000000)
    (hQ : ∀ t' h' tk', Fr h₀ L h' m → News h₀ L h' news → Q (.str ⟨(fixL x.cps.toList).toArray⟩ t') { s with heap := h', toks := tk' }) :
    wpAny (model prog w) A (call (.builtin "re.Pattern.sub") [.ref P, .str r tr, .str x t]) Q E s := by
  obtain ⟨rc⟩ := r
  subst hr
  refine call_sub_str (hP.keeps hF.keep) (finds3 _) (subst3 _) (by simp) hx ?_ fun t' h' tk' st => ?_
  · have := fixL_len _ x.cps.toList (Nat.le_refl _)
    simp at this ⊢
    omega
  · simpa using hQ t' h' tk' (keepsFr hF st) (keepsNews hN st)
theorem sub1 (hF : Fr h₀ L s.heap m) (hN : News h₀ L s.heap news) (hP : PatAt h₀ P reC1 0) (hr : r.cps = #[46, 46]) (hx : x.cps.size ≤ 4000000)
    (hQ : ∀ t' h' tk', Fr h₀ L h' m → News h₀ L h' news → Q (.str ⟨(quoteL true x.cps.toList).toArray⟩ t') { s with heap := h', toks := tk' }) :
    wpAny (model prog w) A (call (.builtin "re.Pattern.sub") [.ref P, .str r tr, .str x t]) Q E s := by
  obtain ⟨rc⟩ := r
  subst hr
  refine call_sub_str (hP.keeps hF.keep) (finds1 _ (by omega)) (subst1 _) (by simp) hx ?_ fun t' h' tk' st => ?_
  · have := quoteL_len x.cps.toList (atLine x.cps 0)
    simp at this ⊢
    omega
  · simpa [atLine] using hQ t' h' tk' (keepsFr hF st) (keepsNews hN st)
theorem sub1b {b : Array UInt8} (hF : Fr h₀ L s.heap m) (hN : News h₀ L s.heap news) (hP : PatAt h₀ P reC1 1) (hx : b.size ≤ 4000000)
    (hQ : ∀ t' h' tk', Fr h₀ L h' m → News h₀ L h' news → Q (.bytes (u8 (quoteL true (numsB b).toList)).toArray t') { s with heap := h', toks := tk' }) :
    wpAny (model prog w) A (call (.builtin "re.Pattern.sub") [.ref P, .bytes #[46, 46] tr, .bytes b t]) Q E s := by
  have hsz : (numsB b).size = b.size := by simp [numsB]
  refine call_sub_bytes (hP.keeps hF.keep) (finds1 _ (by omega)) (r := #[46, 46]) (by rw [show (numsB #[46, 46]).toList = [46, 46] from by simp [numsB]]; exact subst1 _) (by simp) hx ?_ fun t' h' tk' st => ?_
  · have := quoteL_len (numsB b).toList (atLine (numsB b) 0)
    simp at this ⊢
    omega
  · simpa [atLine] using hQ t' h' tk' (keepsFr hF st) (keepsNews hN st)
end
local macro_rules | `(tactic| walk_at "getMethod ref") => `(tactic| (k_here; (with_reducible show wpAny _ _ (getMethod (Value.ref _) (PySem.Str.ofString "sub") _) _ _ _); (refine getMethod_sub (PatAt.keeps (by with_reducible assumption) (Fr.keep (by k_asm))) ?_)))
local macro_rules | `(tactic| walk_at "call builtin:re.Pattern.sub") => `(tactic| (k_here; (first
  | (refine sub3 (by k_asm) (by k_asm) (by with_reducible assumption) (by first | rfl | decide) (by first | assumption | omega) ?_)
  | (refine sub1 (by k_asm) (by k_asm) (by with_reducible assumption) (by first | rfl | decide) (by first | assumption | omega) ?_)
  | (refine sub1b (by k_asm) (by k_asm) (by with_reducible assumption) (by first | assumption | omega) ?_)); intro t' h' tk' F' N'; (try k_sweep)))

section
variable {w : World} {dp un : Nat} {gd : Option (List Code)} {outer : List Env} {base : Heap} {loose : List Str} {mean : ExcName → Option Value} {mg mb : Str → Option Value} {s : Shared}
  {Q E : Value → Shared → Prop}
theorem pat3 (X : (hd.heap_39 w.params).In s.heap) : PatAt s.heap 46 reC3 0 := by
  have h := X 45 _ (by k_is)
  refine ⟨_, _, 45, _, #[], 0, X _ _ (by k_is), ?_⟩
  rw [h]
  simp [reC3]
theorem pat1 (X : (hd.heap_39 w.params).In s.heap) : PatAt s.heap 36 reC1 0 := by
  have h := X 35 _ (by k_is)
  refine ⟨_, _, 35, _, #[], 0, X _ _ (by k_is), ?_⟩
  rw [h]
  simp [reC1]
theorem pat2 (X : (hd.heap_39 w.params).In s.heap) : PatAt s.heap 41 reC1 1 := by
  have h := X 40 _ (by k_is)
  refine ⟨_, _, 40, _, #[], 0, X _ _ (by k_is), ?_⟩
  rw [h]
  simp [reC1]

theorem c_eol (S : Sit w dp un outer base s.heap loose mean mg mb) {x : Str} {t₀ : Tok} (hn : x.cps.size ≤ 4000000)
    (hQ : ∀ t h' tk', s.heap.StaysIn h' → Q (.str ⟨(fixL x.cps.toList).toArray⟩ t) { s with heap := h', toks := tk' }) :
    wpAny (model theProg w) (arnd dp un gd outer) (call (.ref 67) [.str x t₀]) Q E s := by
  obtain ⟨B, X, T, hr, hu⟩ := id S
  have hp := pat3 X
  refine wpAny_call ?_
  refine' enter S ?k6 ?k7 ?k9 ?kB ?_ ?c2 ?c3 ?c4 ?c5; (case k6 => k_is); (case k7 => k_is); (case k9 => exact BindsTo.of_eq rfl); (case c5 => decide); (case kB => exact locs rfl); (case c2 => exact rfl); (case c3 => exact rfl); (case c4 => exact rfl)
  intro L' h₁ F N
  try dsimp only
  k_fold
  k_with_none
  k_steps
  exact leaveP_ (by k_asm) (by k_asm) fun st _ => hQ _ _ _ st
theorem c_quotedata (S : Sit w dp un outer base s.heap loose mean mg mb) {x : Str} {t₀ : Tok} (hn : x.cps.size ≤ 1000000)
    (hQ : ∀ t h' tk', s.heap.StaysIn h' → Q (.str ⟨(quoteL true (fixL x.cps.toList)).toArray⟩ t) { s with heap := h', toks := tk' }) :
    wpAny (model theProg w) (arnd dp un gd outer) (call (.ref 53) [.str x t₀]) Q E s := by
  obtain ⟨B, X, T, hr, hu⟩ := id S
  have hp := pat3 X
  have hp1 := pat1 X
  have hfx := fixL_len _ x.cps.toList (Nat.le_refl _)
  have hfe : x.cps.toList.length = x.cps.size := Array.length_toList
  have hn' : x.cps.size ≤ 4000000 := by omega
  have hn2 : (⟨(fixL x.cps.toList).toArray⟩ : Str).cps.size ≤ 4000000 := by simp; omega
  refine wpAny_call ?_
  refine' enter S ?k6 ?k7 ?k9 ?kB ?_ ?c2 ?c3 ?c4 ?c5; (case k6 => k_is); (case k7 => k_is); (case k9 => exact BindsTo.of_eq rfl); (case c5 => decide); (case kB => exact locs rfl); (case c2 => exact rfl); (case c3 => exact rfl); (case c4 => exact rfl)
  intro L' h₁ F N
  try dsimp only
  k_fold
  k_with_none
  k_steps
  exact leaveP_ (by k_asm) (by k_asm) fun st _ => hQ _ _ _ st
theorem c_periods (S : Sit w dp un outer base s.heap loose mean mg mb) {b : Array UInt8} {t₀ : Tok} (hn : b.size ≤ 4000000)
    (hQ : ∀ t h' tk', s.heap.StaysIn h' → Q (.bytes (u8 (quoteL true (numsB b).toList)).toArray t) { s with heap := h', toks := tk' }) :
    wpAny (model theProg w) (arnd dp un gd outer) (call (.ref 60) [.bytes b t₀]) Q E s := by
  obtain ⟨B, X, T, hr, hu⟩ := id S
  have hp2 := pat2 X
  refine wpAny_call ?_
  refine' enter S ?k6 ?k7 ?k9 ?kB ?_ ?c2 ?c3 ?c4 ?c5; (case k6 => k_is); (case k7 => k_is); (case k9 => exact BindsTo.of_eq rfl); (case c5 => decide); (case kB => exact locs rfl); (case c2 => exact rfl); (case c3 => exact rfl); (case c4 => exact rfl)
  intro L' h₁ F N
  try dsimp only
  k_fold
  k_with_none
  k_steps
  exact leaveP_ (by k_asm) (by k_asm) fun st _ => hQ _ _ _ st
end
end Mine
end
section
open PySem.W in
example : True := by
  w_top off
  trivial
open PySem PySem.W PyProof.Rows PySem.Calls
set_option maxRecDepth 100000
set_option maxHeartbeats 16000000
namespace Mine
/-- what stands between quotation marks, two marks for one -/
noncomputable def unq : List Nat → List Nat
  | [] => []
  | 34 :: 34 :: r => 34 :: unq r
  | c :: r => if c = 34 then [] else c :: unq r
noncomputable def head257 : List Nat := [50, 53, 55, 32, 34]

theorem unq_mark2 (r : List Nat) : unq (34 :: 34 :: r) = 34 :: unq r := by rw [unq]
theorem unq_end (r : List Nat) (h : r.head? ≠ some 34) : unq (34 :: r) = [] := by
  cases r with
  | nil => simp [unq]
  | cons d r =>
    rw [unq]
    · rfl
    · intro x _ e
      injection e with e1 _
      exact h (by rw [e1]; rfl)
theorem unq_plain (c : Nat) (r : List Nat) (h : c ≠ 34) : unq (c :: r) = c :: unq r := by
  rw [unq, if_neg h]
  intro x e _
  exact h e
theorem item_at (x : Str) {i : Int} (h0 : 0 ≤ i) (h1 : i < x.length) : Txt.item x i = ⟨#[x.cps.toList.getD i.toNat 0]⟩ := by
  obtain ⟨k, rfl⟩ := Int.eq_ofNat_of_zero_le h0
  have hk : k < x.cps.size := by
    have : x.length = x.cps.size := rfl
    omega
  have hk' : k < x.cps.toList.length := by simpa using hk
  have hlen : x.length = x.cps.size := rfl
  have e : seqIndex? ((k : Nat) : Int) x.length = some k := by
    unfold seqIndex?
    rw [hlen]
    simp
    omega
  unfold Txt.item Txt.charAt
  rw [e]
  simp [hk]
theorem mark_iff (x : Str) {i : Int} (h0 : 0 ≤ i) (h1 : i < x.length) (b : Bool) : (Txt.item x i == Str.ofString "\"") = b ↔ (x.cps.toList.getD i.toNat 0 == 34) = b := by
  rw [item_at x h0 h1]
  have e : Str.ofString "\"" = ⟨#[34]⟩ := by decide
  rw [e]
  have : ((⟨#[x.cps.toList.getD i.toNat 0]⟩ : Str) == ⟨#[34]⟩) = (x.cps.toList.getD i.toNat 0 == 34) := by
    rw [Bool.eq_iff_iff]
    simp
  rw [this]
theorem drop_at (x : Str) {i : Int} (h0 : 0 ≤ i) (h1 : i < x.length) : x.cps.toList.drop i.toNat = x.cps.toList.getD i.toNat 0 :: x.cps.toList.drop (i + 1).toNat := by
  have : x.length = x.cps.size := rfl
  have hk' : i.toNat < x.cps.toList.length := by simp; omega
  rw [List.drop_eq_getElem_cons hk', show (i + 1).toNat = i.toNat + 1 from by omega]
  rw [List.getD_eq_getElem?_getD, List.getElem?_eq_getElem hk']
  rfl
noncomputable def PI (x : Str) (i : Int) (d : Str) : Prop := d.cps.toList ++ unq (x.cps.toList.drop i.toNat) = unq (x.cps.toList.drop 5)
section
variable {x : Str} {i : Int} {d : Str}
theorem pi_start : (5 : Int) ≤ 5 ∧ (Str.ofString "").length ≤ (5 : Int).toNat ∧ PI x 5 (Str.ofString "") := ⟨by omega, by decide, rfl⟩
theorem pi_plain (h0 : 5 ≤ i) (hl : d.length ≤ i.toNat) (h : PI x i d) (h1 : i < x.length) (h2 : (Txt.item x i == Str.ofString "\"") = false) :
    5 ≤ i + 1 ∧ (d ++ Txt.item x i).length ≤ (i + 1).toNat ∧ PI x (i + 1) (d ++ Txt.item x i) := by
  rw [mark_iff x (by omega) h1] at h2
  refine ⟨by omega, ?_, ?_⟩
  · rw [item_at x (by omega) h1, Str.length_append]
    show d.length + 1 ≤ _
    omega
  · unfold PI at h ⊢
    rw [drop_at x (by omega) h1, unq_plain _ _ (by simpa using h2)] at h
    rw [← h, item_at x (by omega) h1, Str.cps_append]
    simp
theorem pi_double (h0 : 5 ≤ i) (hl : d.length ≤ i.toNat) (h : PI x i d) (h1 : i < x.length) (h2 : (Txt.item x i == Str.ofString "\"") = true) (h3 : ¬ (x.length : Int) ≤ i + 1) (h4 : (Txt.item x (i + 1) != Str.ofString "\"") = false) :
    5 ≤ i + 1 + 1 ∧ (d ++ Txt.item x i).length ≤ (i + 1 + 1).toNat ∧ PI x (i + 1 + 1) (d ++ Txt.item x i) := by
  have h4' : (Txt.item x (i + 1) == Str.ofString "\"") = true := by simpa using h4
  rw [mark_iff x (by omega) h1] at h2
  rw [mark_iff x (by omega) (by omega)] at h4'
  have e2 := beq_iff_eq.mp h2
  have e4 := beq_iff_eq.mp h4'
  refine ⟨by omega, ?_, ?_⟩
  · rw [item_at x (by omega) h1, Str.length_append]
    show d.length + 1 ≤ _
    omega
  · unfold PI at h ⊢
    rw [drop_at x (by omega) h1, drop_at x (by omega) (by omega : i + 1 < x.length), e2, e4, unq_mark2] at h
    rw [← h, item_at x (by omega) h1, Str.cps_append, e2]
    simp
theorem str_of_list (d : Str) (l : List Nat) (h : d.cps.toList = l) : d = ⟨l.toArray⟩ := by
  obtain ⟨⟨c⟩⟩ := d
  have : c = l := h
  rw [this]
theorem pi_end (h0 : 5 ≤ i) (h : PI x i d) (h1 : ¬ i < x.length) : d = ⟨(unq (x.cps.toList.drop 5)).toArray⟩ := by
  have : x.length = x.cps.size := rfl
  unfold PI at h
  rw [List.drop_of_length_le (by simp; omega)] at h
  exact str_of_list _ _ (by simpa [unq] using h)
theorem pi_end1 (h0 : 5 ≤ i) (h : PI x i d) (h1 : i < x.length) (h2 : (Txt.item x i == Str.ofString "\"") = true) (h3 : (x.length : Int) ≤ i + 1) : d = ⟨(unq (x.cps.toList.drop 5)).toArray⟩ := by
  have : x.length = x.cps.size := rfl
  rw [mark_iff x (by omega) h1] at h2
  unfold PI at h
  rw [drop_at x (by omega) h1, beq_iff_eq.mp h2, List.drop_of_length_le (by simp; omega), unq_end _ (by simp)] at h
  exact str_of_list _ _ (by simpa using h)
theorem pi_end2 (h0 : 5 ≤ i) (h : PI x i d) (h1 : i < x.length) (h2 : (Txt.item x i == Str.ofString "\"") = true) (h3 : ¬ (x.length : Int) ≤ i + 1) (h4 : (Txt.item x (i + 1) != Str.ofString "\"") = true) : d = ⟨(unq (x.cps.toList.drop 5)).toArray⟩ := by
  have h4' : (Txt.item x (i + 1) == Str.ofString "\"") = false := by simpa using h4
  rw [mark_iff x (by omega) h1] at h2
  rw [mark_iff x (by omega) (by omega)] at h4'
  unfold PI at h
  rw [drop_at x (by omega) h1, beq_iff_eq.mp h2, unq_end _ (by rw [drop_at x (by omega) (by omega : i + 1 < x.length)]; simpa using h4')] at h
  exact str_of_list _ _ (by simpa using h)
end
theorem head_slice1 {x : Str} (hx : x.cps.toList.take 5 = head257) : (Txt.slice x none (some 3) != Str.ofString "257") = false := by
  have hl : 5 ≤ x.cps.toList.length := by
    have := congrArg List.length hx
    simp [head257] at this
    simp
    omega
  have e : Txt.slice x none (some 3) = ⟨((x.cps.toList.drop 0).take (3 - 0 : Int).toNat).toArray⟩ := StrLaws.sliceText_to ⟨by omega, by omega⟩
  rw [e]
  have : (x.cps.toList.drop 0).take (3 - 0 : Int).toNat = [50, 53, 55] := by
    show x.cps.toList.take 3 = _
    have := congrArg (List.take 3) hx
    rw [List.take_take] at this
    exact this
  rw [this]
  decide
theorem head_slice2 {x : Str} (hx : x.cps.toList.take 5 = head257) : (Txt.slice x (some 3) (some 5) != Str.ofString " \"") = false := by
  have hl : 5 ≤ x.cps.toList.length := by
    have := congrArg List.length hx
    simp [head257] at this
    simp
    omega
  have e : Txt.slice x (some 3) (some 5) = ⟨((x.cps.toList.drop (3 : Int).toNat).take (5 - 3 : Int).toNat).toArray⟩ := StrLaws.sliceText_plain ⟨by omega, by omega, by omega⟩
  rw [e]
  have : (x.cps.toList.drop (3 : Int).toNat).take (5 - 3 : Int).toNat = [32, 34] := by
    show (x.cps.toList.drop 3).take 2 = _
    have := congrArg (List.drop 3) hx
    rw [List.drop_take] at this
    exact this
  rw [this]
  decide

end Mine
end
section
open PySem.W in
example : True := by
  w_top off
  trivial
open PySem PySem.W PyProof.Rows PySem.Calls
set_option maxRecDepth 100000
set_option maxHeartbeats 16000000
namespace Mine
example (w : World) : hd.heap_39 w.params = hd.heap_39 w.params ∧ PySem.Challenge.rw_xc0005_01 = PySem.Challenge.rw_xc0005_01 := by
  k_fill
  exact ⟨rfl, rfl⟩
section
variable {w : World} {dp un : Nat} {gd : Option (List Code)} {outer : List Env} {base : Heap} {loose : List Str} {mean : ExcName → Option Value} {mg mb : Str → Option Value} {s : Shared}
  {Q E : Value → Shared → Prop}

theorem c_parse (S : Sit w dp un outer base s.heap loose mean mg mb) {x : Str} {t₀ : Tok} (hn : x.cps.size ≤ 1000000) (hx : x.cps.toList.take 5 = head257)
    (hQ : ∀ t h' tk', s.heap.StaysIn h' → Q (.str ⟨(unq (x.cps.toList.drop 5)).toArray⟩ t) { s with heap := h', toks := tk' }) :
    wpAny (model theProg w) (arnd dp un gd outer) (call (.ref 99) [.str x t₀]) Q E s := by
  obtain ⟨B, X, T, hr, hu⟩ := id S
  have hlen : x.length ≤ 1000000 := hn
  have e1 := head_slice1 hx
  have e2 := head_slice2 hx
  refine wpAny_call ?_
  refine' enter S ?k6 ?k7 ?k9 ?kB ?_ ?c2 ?c3 ?c4 ?c5; (case k6 => k_is); (case k7 => k_is); (case k9 => exact BindsTo.of_eq rfl); (case c5 => decide); (case kB => exact locs rfl); (case c2 => exact rfl); (case c3 => exact rfl); (case c4 => exact rfl)
  intro L' h₁ F N
  try dsimp only
  k_fold
  k_with_none
  k_with "state" => first | with_reducible exact pi_start | with_reducible exact pi_plain (by assumption) (by assumption) (by assumption) (by assumption) (by assumption) | with_reducible exact pi_double (by assumption) (by assumption) (by assumption) (by assumption) (by assumption) (by assumption) (by assumption)
  k_with "exec While Compare cons nil" => k_while (fun (_ : List Int) i d => 5 ≤ i ∧ d.length ≤ i.toNat ∧ PI x i d) (fun (_ : List Int) i _ => x.length - i.toNat) "i" "dirname"
  k_steps
  all_goals (try dsimp only)
  all_goals (try k_unfold)
  all_goals (try dsimp only)
  all_goals
    refine leaveP_ (by k_asm) (by k_asm) fun st _ => ?_
    dsimp only
    (rename PI x _ _ => hP')
    first
      | rw [pi_end (by assumption) hP' (by assumption)]
      | rw [pi_end2 (by assumption) hP' (by assumption) (by assumption) (by assumption) (by assumption)]
      | rw [pi_end1 (by assumption) hP' (by assumption) (by assumption) (by assumption)]
    exact hQ _ _ _ st
end
end Mine
end
section
open PySem.W in
example : True := by
  w_top off
  trivial
open PySem PySem.W PyProof.Rows PySem.Calls
set_option maxRecDepth 100000
set_option maxHeartbeats 16000000
namespace Mine
example (w : World) : hd.heap_39 w.params = hd.heap_39 w.params ∧ PySem.Challenge.rw_xc0005_01 = PySem.Challenge.rw_xc0005_01 := by
  k_fill
  exact ⟨rfl, rfl⟩
structure Hold (P : Prop) : Prop where
  out : P
/-- a byte from behind -/
@[irreducible] noncomputable def byteAt (b : Array UInt8) (i : Int) : Int := (KBw.bInts b).getD (i + b.size).toNat 0
/-- the lamp at k of a word -/
noncomputable def lamp (b : Array UInt8) (k : Int) : Int := if Int.fdiv k 4 < b.size then Int.fmod (Int.fdiv (byteAt b (-1 - Int.fdiv k 4) - 65) (2 ^ (Int.fmod k 4).toNat)) 2 else 0
noncomputable def ringOf (b : Array UInt8) : List Int := (rangeKs 0 16).map (lamp b)
theorem byteAt_in (b : Array UInt8) (i : Int) : 0 ≤ byteAt b i ∧ byteAt b i < 256 := by
  unfold byteAt
  exact KBw.getD_in fun k hk => KBw.ints_in hk
theorem foldl_push {f : Int → Int} : ∀ (l : List Int) (a : List Int), l.foldl (fun a k => a ++ [f k]) a = a ++ l.map f
  | [], a => by simp
  | k :: r, a => by rw [List.foldl_cons, foldl_push r]; simp
theorem ring_fold (b : Array UInt8) : List.foldl
    (fun a' k' =>
      if k'.fdiv 4 < (b.size : Int) ∧ 0 ≤ byteAt b (-1 - k'.fdiv 4) ∧ byteAt b (-1 - k'.fdiv 4) < 256 ∧ 0 ≤ k'.fmod 4 ∧ k'.fmod 4 < 4 then
        a' ++ [((byteAt b (-1 - k'.fdiv 4) - 65).fdiv (2 ^ (k'.fmod 4).toNat)).fmod 2]
      else
        if ¬k'.fdiv 4 < (b.size : Int) ∧ 0 ≤ k'.fmod 4 ∧ k'.fmod 4 < 4 then a' ++ [(Int.fdiv 0 (2 ^ (k'.fmod 4).toNat)).fmod 2]
        else a')
    [] (rangeKs 0 (16 - 0 : Int).toNat) = ringOf b := by
  have e : (fun (a' : List Int) (k' : Int) =>
      if k'.fdiv 4 < (b.size : Int) ∧ 0 ≤ byteAt b (-1 - k'.fdiv 4) ∧ byteAt b (-1 - k'.fdiv 4) < 256 ∧ 0 ≤ k'.fmod 4 ∧ k'.fmod 4 < 4 then
        a' ++ [((byteAt b (-1 - k'.fdiv 4) - 65).fdiv (2 ^ (k'.fmod 4).toNat)).fmod 2]
      else
        if ¬k'.fdiv 4 < (b.size : Int) ∧ 0 ≤ k'.fmod 4 ∧ k'.fmod 4 < 4 then a' ++ [(Int.fdiv 0 (2 ^ (k'.fmod 4).toNat)).fmod 2]
        else a') = fun a' k' => a' ++ [lamp b k'] := by
    funext a' k'
    have h1 : 0 ≤ k'.fmod 4 := Int.fmod_nonneg_of_pos _ (by decide)
    have h2 : k'.fmod 4 < 4 := Int.fmod_lt_of_pos _ (by decide)
    have hb := byteAt_in b (-1 - k'.fdiv 4)
    unfold lamp
    by_cases h : k'.fdiv 4 < (b.size : Int)
    · rw [if_pos ⟨h, hb.1, hb.2, h1, h2⟩, if_pos h]
    · rw [if_neg (fun q => h q.1), if_pos ⟨h, h1, h2⟩, if_neg h]
      have : (Int.fdiv 0 (2 ^ (k'.fmod 4).toNat)).fmod 2 = 0 := by rw [Int.zero_fdiv]; rfl
      rw [this]
  rw [e, foldl_push]
  rfl
theorem word_item {prog : Program} {w : World} {A : Around} {E : Value → Shared → Prop} {s : Shared} {value slice : PySem.Expr} {b : Array UInt8} {t ui : Tok} {i : Int} {Q : Value → Shared → Prop}
    (hfit : b.size ≤ 1000000) (h0 : -(b.size : Int) ≤ i) (h1 : i < 0)
    (h : ∀ t' k, 0 ≤ byteAt b i → byteAt b i < 256 → Q (.int (byteAt b i) t') { s with toks := k })
    (hs : subscripted slice false (.bytes b t) (.int i ui) = operate [.bytes b t, .int i ui] (getItem (.bytes b t) (.int i ui)) := by with_unfolding_all rfl)
    (ht : ∀ r, letTemporaryGo value (.bytes b t) r = pure () := by intro _; with_unfolding_all rfl) : wpAny (model prog w) A (subscriptTail value slice (.bytes b t) (.int i ui)) Q E s := by
  refine KBc.itemR_K rfl (by rw [KBw.ints_length]; omega) (by rw [KBw.ints_length]; exact h0) h1 (fun t' k a c => ?_) hs ht
  have e : (KBw.bInts b).getD (i + (KBw.bInts b).length).toNat 0 = byteAt b i := by unfold byteAt; rw [KBw.ints_length]
  rw [e] at a c ⊢
  exact h t' k a c
local macro_rules | `(tactic| walk_at "subscriptTail Name BinOp bytes int") => `(tactic| (k_here; (refine word_item (by omega) (by rw [Int.fdiv_eq_ediv_of_nonneg _ (by decide)] at *; omega) (by rw [Int.fdiv_eq_ediv_of_nonneg _ (by decide)] at *; omega) ?_); intro _ _ mLo mHi; (try dsimp only)))
section
variable {w : World} {dp un : Nat} {gd : Option (List Code)} {outer : List Env} {base : Heap} {loose : List Str} {mean : ExcName → Option Value} {mg mb : Str → Option Value} {s : Shared}
  {Q E : Value → Shared → Prop}

theorem c_ring (S : Sit w dp un outer base s.heap loose mean mg mb) {b : Array UInt8} {t₀ : Tok} (hb : b.size ≤ 4)
    (hQ : Hold (∀ a vs n h' tk', s.heap.StaysIn h' → s.heap.get? a = none → h'.get? a = some { cls := .type "list", data := .seq vs n } → IntsAre vs.toList (ringOf b) → Q (.ref a) { s with heap := h', toks := tk' })) :
    wpAny (model theProg w) (arnd dp un gd outer) (call (.ref 118) [.bytes b t₀]) Q E s := by
  obtain ⟨B, X, T, hr, hu⟩ := id S
  refine wpAny_call ?_
  refine' enter S ?k6 ?k7 ?k9 ?kB ?_ ?c2 ?c3 ?c4 ?c5; (case k6 => k_is); (case k7 => k_is); (case k9 => exact BindsTo.of_eq rfl); (case c5 => decide); (case kB => exact locs rfl); (case c2 => exact rfl); (case c3 => exact rfl); (case c4 => exact rfl)
  intro L' h₁ F N
  try dsimp only
  k_fold
  k_with_none
  k_steps
  all_goals (try dsimp only)
  all_goals (try k_unfold)
  all_goals (try dsimp only)
  (rename IntsAre _ _ => hI')
  rw [ring_fold] at hI'
  refine leaveP_ (by k_asm) (by k_asm) fun st hn => ?_
  exact hQ.out _ _ _ _ _ st (hn _ (.head _)).2 (hn _ (.head _)).1 hI'
end
end Mine
end
section
open PySem.W in
example : True := by
  w_top off
  trivial
open PySem PySem.W PyProof.Rows PySem.Calls
set_option maxRecDepth 100000
set_option maxHeartbeats 16000000
namespace Mine
example (w : World) : hd.heap_39 w.params = hd.heap_39 w.params ∧ PySem.Challenge.rw_xc0005_01 = PySem.Challenge.rw_xc0005_01 := by
  k_fill
  exact ⟨rfl, rfl⟩
/-- the number of the lamps lit -/
noncomputable def numOf (ns : List Int) : Int := (List.foldl (fun l' k' => if ns.getD k'.toNat 0 = 1 then l' ++ [2 ^ k'.toNat] else l') [] (rangeKs 0 (16 - 0 : Int).toNat)).sum
section
variable {w : World} {dp un : Nat} {gd : Option (List Code)} {outer : List Env} {base : Heap} {loose : List Str} {mean : ExcName → Option Value} {mg mb : Str → Option Value} {s : Shared}
  {Q E : Value → Shared → Prop}

theorem c_number (S : Sit w dp un outer base s.heap loose mean mg mb) {r : Addr} {vs : List Value} {ns : List Int} (hL : s.heap.IsList r vs.toArray) (hI : IntsAre vs ns) (h16 : ns.length = 16)
    (hQ : Hold (∀ t h' tk', s.heap.StaysIn h' → Q (.int (numOf ns) t) { s with heap := h', toks := tk' })) :
    wpAny (model theProg w) (arnd dp un gd outer) (call (.ref 128) [.ref r]) Q E s := by
  obtain ⟨B, X, T, hr, hu⟩ := id S
  refine wpAny_call ?_
  refine' enterC S ?k6 ?k7 ?k9 ?kB ?kD ?_ ?c2 ?c3 ?c4; (case k6 => k_is); (case k7 => k_is); (case k9 => exact BindsTo.of_eq rfl); (case kB => exact rfl); (case kD => decide +kernel); (case c2 => exact rfl); (case c3 => exact rfl); (case c4 => exact rfl)
  intro L' h₁ tk' cells' F N Y'
  k_cells Y'
  try dsimp only
  (show wpAny _ _ _ _ _ _)
  k_fold
  k_with_none
  k_steps
  refine leaveP_ (by k_asm) (by k_asm) fun st hn => ?_
  exact hQ.out _ _ _ st
end
end Mine
end
section
open PySem.W in
example : True := by
  w_top off
  trivial
open PySem PySem.W PyProof.Rows PySem.Calls
set_option maxRecDepth 100000
set_option maxHeartbeats 16000000
namespace Mine
example (w : World) : hd.heap_39 w.params = hd.heap_39 w.params ∧ PySem.Challenge.rw_xc0005_01 = PySem.Challenge.rw_xc0005_01 := by
  k_fill
  exact ⟨rfl, rfl⟩
/-- every fourth int from k on -/
@[irreducible] noncomputable def pick4 (ns : List Int) (k : Int) : List Int := pickNums ns (some k) none (some 4)
theorem slice4 {prog : Program} {w : World} {A : Around} {E : Value → Shared → Prop} {s : Shared} {value slice : PySem.Expr} {h₀ : Heap} {L l : Addr} {m : PySem.Str → Option Value} {news : List (Addr × Obj)} {vs : List Value} {ns : List Int} {k : Int} {t t4 : Tok} {ops : List Value} {Q : Value → Shared → Prop}
    (F : Fr h₀ L s.heap m) (N : News h₀ L s.heap news) (hl : s.heap.IsList l vs.toArray) (hi : IntsAre vs ns) (hz : ns.length ≤ 1000000)
    (h : ∀ D ws h', Fr h₀ L h' m → News h₀ L h' ((D, listOf (List.toArray ws) 0) :: news) → (∀ p ∈ news, p.1 < D) → IntsAre ws (pick4 ns k) → (pick4 ns k).length ≤ ns.length → Q (.ref D) { s with heap := h' })
    (hs : subscripted slice false (.ref l) (.ref s.heap.objs.size) = operate ops (getItem (.ref l) (.ref s.heap.objs.size)) := by with_unfolding_all rfl)
    (ht : ∀ r, letTemporaryGo value (.ref l) r = pure () := by intro _; with_unfolding_all rfl) :
    wpAny (model prog w) A (subscriptTail value slice (.ref l) (.ref s.heap.objs.size)) Q E { s with heap := s.heap.push { cls := .type "slice", data := .fields #[.int k t, .none, .int 4 t4] } } := by
  have hp : IntsAre (slicePick vs.toArray (some k) none (some 4)).toList (pick4 ns k) := by unfold pick4; exact hi.pick _ _ _
  have hsz : vs.toArray.size ≤ sizeLine := by rw [List.size_toArray, hi.length, sizeLine_eq]; omega
  refine slice_list3 F N hl (.int k t) .none (.int 4 t4) (by decide) (fun h' F' N' => ?_) hs ht hsz
  refine h (s.heap.objs.size + 1) _ h' F' ?_ (fun p hp => Nat.lt_succ_of_lt (Heap.lt_size (N p hp).1)) hp ?_
  · rw [Array.toArray_toList]; exact N'
  · rw [← hp.length, ← hi.length, Array.length_toList]
    simpa using slicePick_size_le vs.toArray (some k) none (some 4)
local macro_rules | `(tactic| walk_at "subscriptTail Name Slice ref ref") => `(tactic| (k_here; (with_reducible show wpAny _ _ (subscriptTail _ (PySem.Expr.Slice _ none (some _) _) (Value.ref _) (Value.ref _)) _ _ _); (refine slice4 (s := ⟨_, _, _, _, _⟩) (by k_asm) (by k_asm) (by kmk_list) (by l_ints) (by omega) ?_); intro D' ws' h' F' N' l1 hI' hL'; (try dsimp only); (try k_lt l1); (try k_sweep)))
section
variable {w : World} {dp un : Nat} {gd : Option (List Code)} {outer : List Env} {base : Heap} {loose : List Str} {mean : ExcName → Option Value} {mg mb : Str → Option Value} {s : Shared}
  {Q E : Value → Shared → Prop}

theorem c_cells (S : Sit w dp un outer base s.heap loose mean mg mb) {r : Addr} {vs : List Value} {ns : List Int} (hL : s.heap.IsList r vs.toArray) (hI : IntsAre vs ns) (h63 : ns.length ≤ 63)
    (hQ : Hold (∀ a vs' n c₀ c₁ c₂ c₃ h' tk', s.heap.StaysIn h' → s.heap.get? a = none → h'.get? a = some { cls := .type "list", data := .seq vs' n } → IntsAre vs'.toList [c₀, c₁, c₂, c₃] → Q (.ref a) { s with heap := h', toks := tk' })) :
    wpAny (model theProg w) (arnd dp un gd outer) (call (.ref 111) [.ref r]) Q E s := by
  obtain ⟨B, X, T, hr, hu⟩ := id S
  refine wpAny_call ?_
  refine' enterC S ?k6 ?k7 ?k9 ?kB ?kD ?_ ?c2 ?c3 ?c4; (case k6 => k_is); (case k7 => k_is); (case k9 => exact BindsTo.of_eq rfl); (case kB => exact rfl); (case kD => decide +kernel); (case c2 => exact rfl); (case c3 => exact rfl); (case c4 => exact rfl)
  intro L' h₁ tk' cells' F N Y'
  k_cells Y'
  try dsimp only
  (show wpAny _ _ _ _ _ _)
  k_fold
  k_with_none
  k_steps
  (rename IntsAre _ (List.map _ _) => hI')
  refine leaveP_ (by k_asm) (by k_asm) fun st hn => ?_
  exact hQ.out _ _ _ _ _ _ _ _ _ st (hn _ (.head _)).2 (hn _ (.head _)).1 hI'
end
end Mine
end
section
open PySem.W in
example : True := by
  w_top off
  trivial
open PySem PySem.W PyProof.Rows PySem.Calls PyProof.Rows.LCg
set_option maxRecDepth 100000
set_option maxHeartbeats 16000000
namespace Mine
/-- here the walk waits for a hand -/
structure Halt (P : Prop) : Prop where
  out : P
/-- an element's end -/
noncomputable def MEl (news : List (Addr × Obj)) (R : Value → Prop) (y : Value) (news' : List (Addr × Obj)) : Prop := news' = news ∧ R y
noncomputable def MIs (r : Int) (y : Value) : Prop := ∃ t, y = .int r t
noncomputable def MTx (r : Str) (y : Value) : Prop := ∃ t, y = .str r t
theorem mel_int {news : List (Addr × Obj)} {r r' : Int} {t : Tok} (e : r = r') : MEl news (MIs r) (.int r' t) news := ⟨rfl, t, by rw [e]⟩
theorem mel_str {news : List (Addr × Obj)} {r r' : Str} {t : Tok} (e : r = r') : MEl news (MTx r) (.str r' t) news := ⟨rfl, t, by rw [e]⟩
theorem ints_snoc {y : Int} {t : Tok} {vs : List Value} {ys : List Int} (h : IntsAre vs ys) : IntsAre (vs ++ [.int y t]) (ys ++ [y]) := IntsAre.append h (.cons y t .nil)
theorem strs_snoc {y : Str} {t : Tok} : ∀ {vs : List Value} {ys : List Str}, StrsAre vs ys → StrsAre (vs ++ [.str y t]) (ys ++ [y])
  | _, _, .nil => .cons y t .nil
  | _, _, .cons z u r => .cons z u (strs_snoc r)
theorem strs_length : ∀ {vs : List Value} {ys : List Str}, StrsAre vs ys → vs.length = ys.length
  | _, _, .nil => rfl
  | _, _, .cons _ _ r => by simp [strs_length r]
theorem strs_at : ∀ {vs : List Value} {ks : List Str}, StrsAre vs ks → ∀ (i : Nat) (v : Value), vs[i]? = some v → ∃ k t, v = .str k t ∧ ks[i]? = some k
  | _, _, .nil, i, v, h => by simp at h
  | _, _, .cons y t r, 0, v, h => by simp at h; exact ⟨y, t, h.symm, rfl⟩
  | _, _, .cons y t r, i + 1, v, h => by
    simp at h
    obtain ⟨k, t', e, hk⟩ := strs_at r i v h
    exact ⟨k, t', e, by simpa using hk⟩
section
variable {prog : Program} {w : World} {A : Around} {h₀ : Heap} {L : Addr} {m : Str → Option Value} {env : Env} {elt : PySem.Expr} {x : Str} {scope : Scope} {cl : List (Str × Addr)} {s : Shared} {S : List (Addr × Obj) → Prop} {P : Nat → Value → Prop} {Fin : List Value → List (Addr × Obj) → Prop} {news : List (Addr × Obj)}
theorem mc_rest {α β : Type} {ks : List α} {n : Nat} (VO : α → Value → Prop) (RO : β → Value → Prop) (All : List Value → List β → Prop) (g : α → β)
    (h0 : All [] []) (hs : ∀ vs ys b v, All vs ys → RO b v → All (vs ++ [v]) (ys ++ [b]))
    (hks : ks.length = n) (hP : ∀ i v, i < n → P i v → ∃ k, ks[i]? = some k ∧ VO k v)
    (turn : ∀ k v I oI C oC D m₂ ys h tk (E' : Value → Shared → Prop), k ∈ ks → VO k v → LCg.NsObj oC m₂ → m₂ x = some v → Fr h₀ L h m → News h₀ L h ((I, oI) :: (C, oC) :: (D, LCg.lst ys) :: news) → LCg.Off3 I C D news → ((@Ne Nat I C) ∧ (@Ne Nat I D) ∧ (@Ne Nat C D)) →
      wpAny (model prog w) A (eval elt (compEnvC scope cl C env)) (LCg.CompEnd h₀ L m { s with heap := h, toks := tk } I oI C oC D (LCg.lst ys) S (fun y news' => MEl news (RO (g k)) y news')) E' { s with heap := h, toks := tk })
    (fin : ∀ ys, All ys (ks.map g) → Fin ys news) : LCg.CompRest prog w A h₀ L m env elt x scope cl s S P Fin n 0 [] news := by
  have key : ∀ (j i : Nat) (ys : List Value), i + j = n → All ys ((ks.take i).map g) → LCg.CompRest prog w A h₀ L m env elt x scope cl s S P Fin j i ys news := by
    intro j
    induction j with
    | zero =>
      intro i ys hi hy
      have e : i = ks.length := by omega
      subst e
      rw [List.take_length] at hy
      exact LCg.CompRest.zero (fin ys hy)
    | succ j ih =>
      intro i ys hi hy
      refine LCg.CompRest.succ ?_
      intro v I oI C oC D m₂ h tk E' hv hC hx F N off ne
      obtain ⟨k, hk, hv'⟩ := hP i v (by omega) hv
      refine wpAny_mono (turn k v I oI C oC D m₂ ys h tk E' (List.mem_of_getElem? hk) hv' hC hx F N off ne) (fun y s₂ hq => ?_) fun _ _ e => e
      obtain ⟨h', tk', nw, e, F', N', off', hS, hn, hy'⟩ := hq
      rw [hn] at N' off' hS
      refine ⟨h', tk', news, e, F', N', off', hS, ?_⟩
      refine ih (i + 1) _ (by omega) ?_
      rw [List.take_add_one, hk]
      simpa using hs _ _ _ _ hy hy'
  exact key n 0 [] (by omega) (by simpa using h0)

/-- turns over ints in order that give texts -/
theorem mc_int_str {n : Nat} {ks : List Int} (g : Int → Str) (hks : ks.length = n) (hP : ∀ i v, i < n → P i v → ∃ k, ks[i]? = some k ∧ MIs k v)
    (turn : ∀ k t I oI C oC D m₂ ys h tk (E' : Value → Shared → Prop), k ∈ ks → LCg.NsObj oC m₂ → m₂ x = some (.int k t) → Fr h₀ L h m → News h₀ L h ((I, oI) :: (C, oC) :: (D, LCg.lst ys) :: news) → LCg.Off3 I C D news → ((@Ne Nat I C) ∧ (@Ne Nat I D) ∧ (@Ne Nat C D)) →
      wpAny (model prog w) A (eval elt (compEnvC scope cl C env)) (LCg.CompEnd h₀ L m { s with heap := h, toks := tk } I oI C oC D (LCg.lst ys) S (fun y news' => MEl news (MTx (g k)) y news')) E' { s with heap := h, toks := tk })
    (fin : ∀ ys, StrsAre ys (ks.map g) → Fin ys news) : LCg.CompRest prog w A h₀ L m env elt x scope cl s S P Fin n 0 [] news :=
  mc_rest (All := StrsAre) MIs MTx g .nil (fun _ _ _ _ h ⟨t, e⟩ => e ▸ strs_snoc h) hks hP (fun k v I oI C oC D m₂ ys h tk E' hk ⟨t, e⟩ => by subst e; exact turn k t I oI C oC D m₂ ys h tk E' hk) fin
theorem mc_str_int {n : Nat} {ks : List Str} (g : Str → Int) (hks : ks.length = n) (hP : ∀ i v, i < n → P i v → ∃ k, ks[i]? = some k ∧ MTx k v)
    (turn : ∀ k t I oI C oC D m₂ ys h tk (E' : Value → Shared → Prop), k ∈ ks → LCg.NsObj oC m₂ → m₂ x = some (.str k t) → Fr h₀ L h m → News h₀ L h ((I, oI) :: (C, oC) :: (D, LCg.lst ys) :: news) → LCg.Off3 I C D news → ((@Ne Nat I C) ∧ (@Ne Nat I D) ∧ (@Ne Nat C D)) →
      wpAny (model prog w) A (eval elt (compEnvC scope cl C env)) (LCg.CompEnd h₀ L m { s with heap := h, toks := tk } I oI C oC D (LCg.lst ys) S (fun y news' => MEl news (MIs (g k)) y news')) E' { s with heap := h, toks := tk })
    (fin : ∀ ys, IntsAre ys (ks.map g) → Fin ys news) : LCg.CompRest prog w A h₀ L m env elt x scope cl s S P Fin n 0 [] news :=
  mc_rest (All := IntsAre) MTx MIs g .nil (fun _ _ _ _ h ⟨t, e⟩ => e ▸ ints_snoc h) hks hP (fun k v I oI C oC D m₂ ys h tk E' hk ⟨t, e⟩ => by subst e; exact turn k t I oI C oC D m₂ ys h tk E' hk) fin
theorem mc_str_str {n : Nat} {ks : List Str} (g : Str → Str) (hks : ks.length = n) (hP : ∀ i v, i < n → P i v → ∃ k, ks[i]? = some k ∧ MTx k v)
    (turn : ∀ k t I oI C oC D m₂ ys h tk (E' : Value → Shared → Prop), k ∈ ks → LCg.NsObj oC m₂ → m₂ x = some (.str k t) → Fr h₀ L h m → News h₀ L h ((I, oI) :: (C, oC) :: (D, LCg.lst ys) :: news) → LCg.Off3 I C D news → ((@Ne Nat I C) ∧ (@Ne Nat I D) ∧ (@Ne Nat C D)) →
      wpAny (model prog w) A (eval elt (compEnvC scope cl C env)) (LCg.CompEnd h₀ L m { s with heap := h, toks := tk } I oI C oC D (LCg.lst ys) S (fun y news' => MEl news (MTx (g k)) y news')) E' { s with heap := h, toks := tk })
    (fin : ∀ ys, StrsAre ys (ks.map g) → Fin ys news) : LCg.CompRest prog w A h₀ L m env elt x scope cl s S P Fin n 0 [] news :=
  mc_rest (All := StrsAre) MTx MTx g .nil (fun _ _ _ _ h ⟨t, e⟩ => e ▸ strs_snoc h) hks hP (fun k v I oI C oC D m₂ ys h tk E' hk ⟨t, e⟩ => by subst e; exact turn k t I oI C oC D m₂ ys h tk E' hk) fin

theorem range_at {n : Nat} {a : Int} : ∀ i v, i < n → (∃ t, v = .int (a + (i : Int)) t) → ∃ k, (rangeKs a n)[i]? = some k ∧ MIs k v :=
  fun i _ hi ⟨t, e⟩ => ⟨a + (i : Int), by simp [rangeKs, hi], t, e⟩
theorem mc_range_str {n : Nat} {a : Int} (g : Int → Str)
    (turn : ∀ k t I oI C oC D m₂ ys h tk (E' : Value → Shared → Prop), a ≤ k → k < a + (n : Int) → LCg.NsObj oC m₂ → m₂ x = some (.int k t) → Fr h₀ L h m → News h₀ L h ((I, oI) :: (C, oC) :: (D, LCg.lst ys) :: news) → LCg.Off3 I C D news → ((@Ne Nat I C) ∧ (@Ne Nat I D) ∧ (@Ne Nat C D)) →
      wpAny (model prog w) A (eval elt (compEnvC scope cl C env)) (LCg.CompEnd h₀ L m { s with heap := h, toks := tk } I oI C oC D (LCg.lst ys) S (fun y news' => MEl news (MTx (g k)) y news')) E' { s with heap := h, toks := tk })
    (fin : ∀ ys, StrsAre ys ((rangeKs a n).map g) → Fin ys news) : LCg.CompRest prog w A h₀ L m env elt x scope cl s S (fun i v => ∃ t, v = .int (a + (i : Int)) t) Fin n 0 [] news :=
  mc_int_str g (rangeKs_length a n) range_at (fun k t I oI C oC D m₂ ys h tk E' hk => turn k t I oI C oC D m₂ ys h tk E' (mem_rangeKs hk).1 (mem_rangeKs hk).2) fin
theorem texts_at {vs : List Value} {ks : List Str} (h : StrsAre vs ks) : ∀ i v, i < vs.toArray.size → vs.toArray[i]? = some v → ∃ k, ks[i]? = some k ∧ MTx k v :=
  fun i v _ hv => let ⟨k, t, e, hk⟩ := strs_at h i v (by simpa using hv); ⟨k, hk, t, e⟩

/-- a value that is walked by an iterator of its own -/
noncomputable def OwnIter (prog : Program) (w : World) (A : Around) (xv : Value) (n : Nat) (P : Nat → Value → Prop) : Prop :=
  ∀ (s₁ : Shared) (E Q : Value → Shared → Prop), (∀ (ob : Obj) (St : Nat → Heap → Prop), ob.isFreed = false → Walks prog w A s₁.heap.objs.size [s₁.heap.objs.size] [s₁.heap.objs.size] n P St → St 0 (s₁.heap.push ob) →
    (∀ i h h' o, St i h → h.get? s₁.heap.objs.size = some o → h'.get? s₁.heap.objs.size = some o → St i h') → (∀ i h, St i h → ∃ o, h.get? s₁.heap.objs.size = some o) → Q (.ref s₁.heap.objs.size) { s₁ with heap := s₁.heap.push ob }) →
    wpAny (model prog w) A (pyIter xv) Q E s₁
noncomputable def SignIs (c : Nat) (v : Value) : Prop := ∃ t, v = .str ⟨#[c]⟩ t
theorem own_str (hh : A.handled = none) (y : Str) (t : Tok) : OwnIter prog w A (.str y t) y.cps.size (SignAt y) := by
  intro s₁ E Q h
  cases ha : y.cps.all (· < 128) with
  | false =>
    refine wpAny_pyIter_wide ha (h _ _ rfl (Walks.strWide hh _ y t) ⟨_, Heap.get?_push_size _ rfl, rfl, rfl⟩ ?_ ?_)
    · exact fun i h h' o st e e' => by obtain ⟨o', q, r⟩ := st; rw [e] at q; cases q; exact ⟨o, e', r⟩
    · exact fun i h st => by obtain ⟨o', q, r⟩ := st; exact ⟨o', q⟩
  | true =>
    refine wpAny_pyIter_ascii ha (h _ _ rfl (Walks.strAscii hh _ y t) ⟨_, Heap.get?_push_size _ rfl, rfl, rfl⟩ ?_ ?_)
    · exact fun i h h' o st e e' => by obtain ⟨o', q, r⟩ := st; rw [e] at q; cases q; exact ⟨o, e', r⟩
    · exact fun i h st => by obtain ⟨o', q, r⟩ := st; exact ⟨o', q⟩
noncomputable def OctetAt (b : Array UInt8) (i : Nat) (v : Value) : Prop := ∃ c u, b[i]? = some c ∧ v = .int (c.toNat : Int) u
theorem own_bytes (hh : A.handled = none) (y : Array UInt8) (t : Tok) : OwnIter prog w A (.bytes y t) y.size (OctetAt y) := by
  intro s₁ E Q h
  refine KBw.pyIter_bytes (h _ _ rfl (KBw.walks hh _ y t) ⟨_, Heap.get?_push_size _ rfl, rfl, rfl⟩ ?_ ?_)
  · exact fun i h h' o st e e' => by obtain ⟨o', q, r⟩ := st; rw [e] at q; cases q; exact ⟨o, e', r⟩
  · exact fun i h st => by obtain ⟨o', q, r⟩ := st; exact ⟨o', q⟩
theorem octets_at (b : Array UInt8) : ∀ i v, i < b.size → OctetAt b i v → ∃ k, (KBw.bInts b)[i]? = some k ∧ MIs k v :=
  fun _ _ _ ⟨_, u, hc, e⟩ => ⟨_, KBw.ints_get hc, u, e⟩
theorem signs_at (y : Str) : ∀ i v, i < y.cps.size → SignAt y i v → ∃ k, (y.cps.toList.map fun c => (⟨#[c]⟩ : Str))[i]? = some k ∧ MTx k v :=
  fun i v hi ⟨c, u, hc, e⟩ => ⟨⟨#[c]⟩, by
    rw [List.getElem?_map, show y.cps.toList[i]? = some c from by simpa using hc]; rfl, u, by rw [e]⟩

noncomputable def MSrc (prog : Program) (w : World) (A : Around) (h₀ : Heap) (L : Addr) (m : Str → Option Value) (env : Env) (elt : PySem.Expr) (x : Str) (scope : Scope) (cl : List (Str × Addr)) (Fin : Shared → List Value → List (Addr × Obj) → Prop) (xv : Value) (s₁ : Shared) : Prop :=
  ∃ n P news, OwnIter prog w A xv n P ∧ Fr h₀ L s₁.heap m ∧ News h₀ L s₁.heap news ∧ n ≤ sizeLine ∧
    ∀ s₂ : Shared, (∃ h, s₂ = { s₁ with heap := h }) → CompRest prog w A h₀ L m env elt x scope cl s₂ (fun _ => True) P (Fin s₂) n 0 [] news
theorem MSrc.intro {Fin : Shared → List Value → List (Addr × Obj) → Prop} {xv : Value} {s₁ : Shared} {n : Nat} (o : OwnIter prog w A xv n P) (F : Fr h₀ L s₁.heap m) (N : News h₀ L s₁.heap news) (hz : n ≤ sizeLine)
    (h : ∀ g, CompRest prog w A h₀ L m env elt x scope cl { s₁ with heap := g } (fun _ => True) P (Fin { s₁ with heap := g }) n 0 [] news) : MSrc prog w A h₀ L m env elt x scope cl Fin xv s₁ :=
  ⟨n, P, news, o, F, N, hz, fun _ ⟨g, e⟩ => e ▸ h g⟩

/-- a ledger that has no entry for the changed place stands -/
theorem ledger_but {h' : Heap} {C : Addr} {led : List (Addr × Obj)} {g : Heap} (N : News h₀ L g led) (off : ∀ p ∈ led, p.1 ≠ C) (hs : g.SameBut C h') : News h₀ L h' led :=
  fun p hp => ⟨hs.extBut _ _ (off p hp) (N p hp).1, (N p hp).2⟩

theorem ListComp_W {E : Value → Shared → Prop} {iter : PySem.Expr} {px : Pos} {pos : Pos} {Q : Value → Shared → Prop} (F₀ : Fr h₀ L s.heap m)
    (hclos : closureFor scope env = pure cl) (hcell : ∀ y ∈ scope.names, y.2 ≠ .cell) (hkind : scope.kind = .function)
    (hnames : ∀ y ∈ scope.names, y.2 = .local → scope.names.lookup y.1 = some .local) (hx : scope.names.lookup x = some .local)
    (h : wpAny (model prog w) A (eval iter env) (MSrc prog w A h₀ L m env elt x scope cl (fun s₂ => FinE h₀ L m s₂ Q)) E s)
    (hs : ∀ x, foldedSetIterable iter env x = pure x := by intro _; rfl) :
    wpAny (model prog w) A (eval (.ListComp elt [⟨.Name x px, iter, [], 0⟩] scope pos) env) Q E s := by
  rw [eval_ListComp]
  refine wpAny_comprehension_free (use := none) rfl hs hclos hkind hnames (wpAny_mono h (fun xv s₁ h₁ => ?_) fun _ _ e => e)
  obtain ⟨n, P, news, o, F, N, hsz, R⟩ := h₁
  refine o _ _ _ fun ob St hfr W hst hSt hIo => ?_
  have up : ∀ b o, s₁.heap.get? b = some o → (s₁.heap.push ob).get? b = some o := fun _ _ e => Heap.get?_push_of_some _ e
  have new : ∀ b ∈ [s₁.heap.objs.size], b < (s₁.heap.push ob).objs.size := fun b hb => by
    rw [List.mem_singleton.mp hb, Heap.size_push]; omega
  exact block_U W hsz hIo (fun i h h' o _ st e e' _ _ _ => hSt i h h' o st e e') hcell hkind hx hst new (F.keeps up) (N.grown up)
    (Nat.ne_of_lt F.ns.lt) (next_is_new F) (fun p hp => Nat.ne_of_lt (Heap.lt_size (N p hp).1)) trivial (R _ ⟨_, rfl⟩)
    fun D C h tk m' ys news' F' N' o1 hn hC₀ _ hCL _ hCD offC fin =>
      ⟨m', hn, fun h'' hs => fin D h'' tk (F'.change hs hCL hC₀) (ledger_but N' (List.forall_mem_cons.2 ⟨Ne.symm hCD, offC⟩) hs) o1⟩
end
end Mine
end
section
open PySem.W in
example : True := by
  w_top off
  trivial
open PySem PySem.W PyProof.Rows PySem.Calls
set_option maxRecDepth 100000
set_option maxHeartbeats 16000000
namespace Mine
theorem CellsAre.eight {cm : Str → Option Value} {n₁ n₂ n₃ n₄ n₅ n₆ n₇ n₈ : Str} {c₁ c₂ c₃ c₄ c₅ c₆ c₇ c₈ : Addr} {cells : List (Addr × Obj)}
    (x : CellsAre cm [(n₁, c₁), (n₂, c₂), (n₃, c₃), (n₄, c₄), (n₅, c₅), (n₆, c₆), (n₇, c₇), (n₈, c₈)] cells) :
    ∃ o₁ o₂ o₃ o₄ o₅ o₆ o₇ o₈, cells = [(c₁, o₁), (c₂, o₂), (c₃, o₃), (c₄, o₄), (c₅, o₅), (c₆, o₆), (c₇, o₇), (c₈, o₈)] ∧ o₁.data = .cell (cm n₁) ∧ o₂.data = .cell (cm n₂) ∧ o₃.data = .cell (cm n₃) ∧ o₄.data = .cell (cm n₄) ∧
      o₅.data = .cell (cm n₅) ∧ o₆.data = .cell (cm n₆) ∧ o₇.data = .cell (cm n₇) ∧ o₈.data = .cell (cm n₈) := by
  cases x with | cons d1 x =>
  cases x with | cons d2 x =>
  cases x with | cons d3 x =>
  cases x with | cons d4 x =>
  cases x with | cons d5 x =>
  cases x with | cons d6 x =>
  cases x with | cons d7 x =>
  cases x with | cons d8 x =>
  cases x
  exact ⟨_, _, _, _, _, _, _, _, rfl, d1, d2, d3, d4, d5, d6, d7, d8⟩
theorem mul_few {prog : Program} {w : World} {A : Around} {E : Value → Shared → Prop} {s : Shared} {x : Str} {t u : Tok} {n : Int} {Q : Value → Shared → Prop} (h0 : 0 ≤ n) (h2 : n ≤ 2) (hx : x.length ≤ 2)
    (h : ∀ t' k, (Txt.mul x n).length ≤ 4 → Q (.str (Txt.mul x n) t') { s with toks := k }) : wpAny (model prog w) A (binaryOp .Mult (.str x t) (.int n u)) Q E s := by
  have hn : n = 0 ∨ n = 1 ∨ n = 2 := by omega
  have hl : (Txt.mul x n).length ≤ 4 := by
    unfold Txt.mul
    rcases hn with rfl | rfl | rfl
    · exact Nat.zero_le _
    · rw [if_neg (by decide), if_pos (by simp)]; omega
    · rw [if_neg (by decide)]
      split
      · omega
      · show ((#[] ++ x.cps) ++ x.cps).size ≤ 4
        have : x.length = x.cps.size := rfl
        simp; omega
  refine SB.mul ⟨by rcases hn with rfl | rfl | rfl <;> decide, fun h1 h3 => ?_, fun h1 h3 => ?_⟩ fun t' k => h t' k hl
  · rcases hn with rfl | rfl | rfl
    · omega
    · simp at h3
    · omega
  · rcases hn with rfl | rfl | rfl
    · omega
    · simp at h3
    · show Builtin.Str.tooLong (x.length * 2) = false
      have hz : x.length = 0 ∨ x.length = 1 ∨ x.length = 2 := by omega
      rcases hz with e | e | e <;> rw [e] <;> decide
theorem bit_at {ns : List Int} (hb : ∀ n ∈ ns, n = 0 ∨ n = 1) (i : Nat) : 0 ≤ ns.getD i 0 ∧ ns.getD i 0 ≤ 1 := by
  rw [List.getD_eq_getElem?_getD]
  cases h : ns[i]? with
  | none => simp
  | some v => have := hb v (List.mem_of_getElem? h); simp; omega
theorem two_bits {ns : List Int} (hb : Hold (∀ n ∈ ns, n = 0 ∨ n = 1)) (i j : Nat) : 0 ≤ ns.getD i 0 + ns.getD j 0 ∧ ns.getD i 0 + ns.getD j 0 ≤ 2 := by
  have a := bit_at hb.out i
  have b := bit_at hb.out j
  omega
theorem one_bit (c : Int) : 0 ≤ c.fmod 2 ∧ c.fmod 2 ≤ 2 := by
  have a := Int.fmod_nonneg_of_pos c (b := 2) (by decide)
  have b := Int.fmod_lt_of_pos c (b := 2) (by decide)
  omega
noncomputable def signT (cell : Int) : Str := Txt.item (Str.ofString "x -\x0b\u0085") (cell.fmod 5)
noncomputable def endT (i : Int) : Str := [Str.ofString "\n", Str.ofString "\r", Str.ofString "\r\n"].getD (i.fmod 3).toNat Str.empty
noncomputable def tailT (i : Int) : Str := [Str.ofString "", Str.ofString "\"", Str.ofString "\" (.)"].getD (i.fmod 3).toNat Str.empty
noncomputable def rowT (ns : List Int) (span cell : Int) (k : Int) : Str :=
  Txt.mul (Str.ofString ".") (ns.getD k.toNat 0 + ns.getD ((k + span).fmod 16).toNat 0) ++ signT cell ++ endT (cell + k)

theorem endT_len (i : Int) : ([Str.ofString "\n", Str.ofString "\r", Str.ofString "\r\n"].getD (i.fmod 3).toNat Str.empty).length ≤ 2 := by
  have a := Int.fmod_nonneg_of_pos i (b := 3) (by decide)
  have b := Int.fmod_lt_of_pos i (b := 3) (by decide)
  have e : i.fmod 3 = 0 ∨ i.fmod 3 = 1 ∨ i.fmod 3 = 2 := by omega
  rcases e with e | e | e <;> rw [e] <;> decide
noncomputable def Short (x : Str) (n : Nat) : Prop := x.length ≤ n
theorem short_add {x y : Str} {a b : Nat} (h : Short x a) (k : Short y b) : Short (x ++ y) (a + b) := by
  unfold Short at *
  rw [Str.length_append]
  omega
theorem short_end (i : Int) : Short ([Str.ofString "\n", Str.ofString "\r", Str.ofString "\r\n"].getD (i.fmod 3).toNat Str.empty) 2 := endT_len i
theorem short_tail (i : Int) : Short ([Str.ofString "", Str.ofString "\"", Str.ofString "\" (.)"].getD (i.fmod 3).toNat Str.empty) 5 := by
  unfold Short
  have a := Int.fmod_nonneg_of_pos i (b := 3) (by decide)
  have b := Int.fmod_lt_of_pos i (b := 3) (by decide)
  have e : i.fmod 3 = 0 ∨ i.fmod 3 = 1 ∨ i.fmod 3 = 2 := by omega
  rcases e with e | e | e <;> rw [e] <;> decide
theorem short_item (x : Str) (i : Int) : Short (Txt.item x i) 1 := by
  exact Nat.le_refl 1
theorem short_dot : Short (Str.ofString ".") 1 := by unfold Short; decide
theorem short_mul {x : Str} {n : Int} (h : (Txt.mul x n).length ≤ 4) : Short (Txt.mul x n) 4 := h
theorem short_mk {l : List Nat} (h : (⟨l.toArray⟩ : Str).length ≤ 80) : Short ⟨l.toArray⟩ 80 := h
theorem add_short {prog : Program} {w : World} {A : Around} {E : Value → Shared → Prop} {s : Shared} {x y : Str} {t u : Tok} {a b : Nat} {Q : Value → Shared → Prop} (hx : Short x a) (hy : Short y b) (hz : a + b ≤ 1000000)
    (h : ∀ t' k, Q (.str (x ++ y) t') { s with toks := k }) : wpAny (model prog w) A (binaryOp .Add (.str x t) (.str y u)) Q E s := by
  unfold Short at hx hy
  exact SB.add h (by rw [sizeLine_eq]; omega)
/-! lists of code points -/
noncomputable def sg (cell : Int) : Nat := [120, 32, 45, 11, 133].getD (cell.fmod 5).toNat 0
noncomputable def en (i : Int) : List Nat := [[10], [13], [13, 10]].getD (i.fmod 3).toNat []
noncomputable def tl (i : Int) : List Nat := [[], [34], [34, 32, 40, 46, 41]].getD (i.fmod 3).toNat []
theorem fmod_cases3 (i : Int) : i.fmod 3 = 0 ∨ i.fmod 3 = 1 ∨ i.fmod 3 = 2 := by
  have a := Int.fmod_nonneg_of_pos i (b := 3) (by decide)
  have b := Int.fmod_lt_of_pos i (b := 3) (by decide)
  omega
theorem fmod_cases5 (i : Int) : i.fmod 5 = 0 ∨ i.fmod 5 = 1 ∨ i.fmod 5 = 2 ∨ i.fmod 5 = 3 ∨ i.fmod 5 = 4 := by
  have a := Int.fmod_nonneg_of_pos i (b := 5) (by decide)
  have b := Int.fmod_lt_of_pos i (b := 5) (by decide)
  omega
theorem fmod_cases2 (i : Int) : i.fmod 2 = 0 ∨ i.fmod 2 = 1 := by
  have a := Int.fmod_nonneg_of_pos i (b := 2) (by decide)
  have b := Int.fmod_lt_of_pos i (b := 2) (by decide)
  omega
theorem sg_in (cell : Int) : sg cell = 120 ∨ sg cell = 32 ∨ sg cell = 45 ∨ sg cell = 11 ∨ sg cell = 133 := by
  unfold sg
  rcases fmod_cases5 cell with e | e | e | e | e <;> rw [e] <;> decide
theorem signT_cps (cell : Int) : signT cell = ⟨#[sg cell]⟩ := by
  unfold signT sg
  rcases fmod_cases5 cell with e | e | e | e | e <;> rw [e] <;> decide
theorem endT_cps (i : Int) : endT i = ⟨(en i).toArray⟩ := by
  unfold endT en
  rcases fmod_cases3 i with e | e | e <;> rw [e] <;> decide
theorem tailT_cps (i : Int) : tailT i = ⟨(tl i).toArray⟩ := by
  unfold tailT tl
  rcases fmod_cases3 i with e | e | e <;> rw [e] <;> decide
theorem en_len (i : Int) : (en i).length ≤ 2 := by
  unfold en
  rcases fmod_cases3 i with e | e | e <;> rw [e] <;> decide
theorem dots_cps {n : Int} (h0 : 0 ≤ n) (h2 : n ≤ 2) : Txt.mul (Str.ofString ".") n = ⟨(List.replicate n.toNat 46).toArray⟩ := by
  have hn : n = 0 ∨ n = 1 ∨ n = 2 := by omega
  rcases hn with rfl | rfl | rfl <;> decide
theorem mul_en (cell : Int) : Txt.mul (⟨(en cell).toArray⟩ : Str) (cell.fmod 2) = ⟨(if cell.fmod 2 = 1 then en cell else []).toArray⟩ := by
  rcases fmod_cases2 cell with e | e
  · rw [e, if_neg (by decide)]; rfl
  · rw [e, if_pos rfl]; rfl
/-- the dots of a row -/
noncomputable def dn (ns : List Int) (span k : Int) : Nat := (ns.getD k.toNat 0 + ns.getD ((k + span).fmod 16).toNat 0).toNat
noncomputable def rowL (ns : List Int) (span cell k : Int) : List Nat := List.replicate (dn ns span k) 46 ++ [sg cell] ++ en (cell + k)
theorem dn_le {ns : List Int} (hb : Hold (∀ n ∈ ns, n = 0 ∨ n = 1)) (span k : Int) : dn ns span k ≤ 2 := by
  have := two_bits hb k.toNat ((k + span).fmod 16).toNat
  unfold dn
  omega
theorem str_mk (a b : List Nat) : (⟨a.toArray⟩ : Str) ++ ⟨b.toArray⟩ = ⟨(a ++ b).toArray⟩ := by
  show (⟨a.toArray ++ b.toArray⟩ : Str) = _
  rw [List.append_toArray]
theorem rowT_cps {ns : List Int} (hb : Hold (∀ n ∈ ns, n = 0 ∨ n = 1)) (span cell k : Int) : rowT ns span cell k = ⟨(rowL ns span cell k).toArray⟩ := by
  have h := two_bits hb k.toNat ((k + span).fmod 16).toNat
  unfold rowT rowL dn
  rw [dots_cps h.1 h.2, signT_cps, endT_cps, show (⟨#[sg cell]⟩ : Str) = ⟨[sg cell].toArray⟩ from rfl, str_mk, str_mk]
theorem rowL_len {ns : List Int} (hb : Hold (∀ n ∈ ns, n = 0 ∨ n = 1)) (span cell k : Int) : (rowL ns span cell k).length ≤ 5 := by
  unfold rowL
  have := dn_le hb span k
  have := en_len (cell + k)
  simp; omega
theorem txt_join (ks : List (List Nat)) : Txt.join (Str.ofString "") (ks.map fun l => (⟨l.toArray⟩ : Str)) = ⟨ks.flatten.toArray⟩ := by
  unfold Txt.join
  rw [StrLaws.glued_eq_join]
  have e0 : Str.ofString "" = ⟨#[]⟩ := by decide
  rw [e0]
  induction ks with
  | nil => rfl
  | cons a r ih => rw [List.map_cons, join_nil_cons, ih, List.flatten_cons, str_mk]
theorem sum_len (ks : List (List Nat)) : ((ks.map fun l => (⟨l.toArray⟩ : Str)).map (·.length)).sum = ks.flatten.length := by
  induction ks with
  | nil => rfl
  | cons a r ih =>
    rw [List.map_cons, List.map_cons, List.sum_cons, ih, List.flatten_cons, List.length_append]
    rfl
theorem join_all {prog : Program} {w : World} {A : Around} {E : Value → Shared → Prop} {s : Shared} {t : Tok} {Q : Value → Shared → Prop} {D : Addr} {ys : List Value} {ks : List (List Nat)}
    (hl : s.heap.IsList D ys.toArray) (hi : StrsAre ys (ks.map fun l => ⟨l.toArray⟩)) (hz : ks.flatten.length ≤ 1000000)
    (h : ∀ t' k', Q (.str ⟨ks.flatten.toArray⟩ t') { s with toks := k' }) : wpAny (model prog w) A (call (.builtin "str.join") [.str (Str.ofString "") t, .ref D]) Q E s := by
  refine join_list hl (by simpa using hi) (by rw [sum_len, show (Str.ofString "").length = 0 from by decide]; omega) fun t' k' => ?_
  rw [txt_join]
  exact h t' k'
theorem flat_len {α : Type} (f : α → List Nat) (B : Nat) (h : ∀ a, (f a).length ≤ B) : ∀ l : List α, (l.map f).flatten.length ≤ B * l.length
  | [] => by simp
  | a :: r => by
    have := flat_len f B h r
    have := h a
    rw [List.map_cons, List.flatten_cons, List.length_append, List.length_cons, Nat.mul_add]
    omega
end Mine
end
section
open PySem.W in
example : True := by
  w_top off
  trivial
open PySem PySem.W PyProof.Rows PySem.Calls PyProof.Rows.LCg
set_option maxRecDepth 100000
set_option maxHeartbeats 16000000
namespace Mine
section
variable {prog : Program} {w : World} {A : Around} {h₀ : Heap} {L : Addr} {m : Str → Option Value} {env : Env} {elt : PySem.Expr} {x : Str} {scope : Scope} {cl : List (Str × Addr)} {s : Shared} {S : List (Addr × Obj) → Prop} {P : Nat → Value → Prop} {Fin : List Value → List (Addr × Obj) → Prop} {news : List (Addr × Obj)}
theorem sign_at (y : Str) : ∀ i v, i < y.cps.size → SignAt y i v → ∃ k, y.cps.toList[i]? = some k ∧ SignIs k v :=
  fun _ _ _ ⟨c, u, hc, e⟩ => ⟨c, by simpa using hc, u, e⟩
/-- the signs of a text, each an int -/
theorem mc_sign_int (y : Str) (g : Nat → Int)
    (turn : ∀ k t I oI C oC D m₂ ys h tk (E' : Value → Shared → Prop), k ∈ y.cps.toList → LCg.NsObj oC m₂ → m₂ x = some (.str ⟨#[k]⟩ t) → Fr h₀ L h m → News h₀ L h ((I, oI) :: (C, oC) :: (D, LCg.lst ys) :: news) → LCg.Off3 I C D news → ((@Ne Nat I C) ∧ (@Ne Nat I D) ∧ (@Ne Nat C D)) →
      wpAny (model prog w) A (eval elt (compEnvC scope cl C env)) (LCg.CompEnd h₀ L m { s with heap := h, toks := tk } I oI C oC D (LCg.lst ys) S (fun y news' => MEl news (MIs (g k)) y news')) E' { s with heap := h, toks := tk })
    (fin : ∀ ys, IntsAre ys (y.cps.toList.map g) → Fin ys news) : LCg.CompRest prog w A h₀ L m env elt x scope cl s S (SignAt y) Fin y.cps.size 0 [] news :=
  mc_rest (All := IntsAre) SignIs MIs g .nil (fun _ _ _ _ h ⟨t, e⟩ => e ▸ ints_snoc h) (by simp) (sign_at y) (fun k v I oI C oC D m₂ ys h tk E' hk ⟨t, e⟩ => by subst e; exact turn k t I oI C oC D m₂ ys h tk E' hk) fin
/-- the octets of bytes, each a text -/
theorem mc_octet_str (b : Array UInt8) (g : Int → Str)
    (turn : ∀ k t I oI C oC D m₂ ys h tk (E' : Value → Shared → Prop), 0 ≤ k → k < 256 → LCg.NsObj oC m₂ → m₂ x = some (.int k t) → Fr h₀ L h m → News h₀ L h ((I, oI) :: (C, oC) :: (D, LCg.lst ys) :: news) → LCg.Off3 I C D news → ((@Ne Nat I C) ∧ (@Ne Nat I D) ∧ (@Ne Nat C D)) →
      wpAny (model prog w) A (eval elt (compEnvC scope cl C env)) (LCg.CompEnd h₀ L m { s with heap := h, toks := tk } I oI C oC D (LCg.lst ys) S (fun y news' => MEl news (MTx (g k)) y news')) E' { s with heap := h, toks := tk })
    (fin : ∀ ys, StrsAre ys ((KBw.bInts b).map g) → Fin ys news) : LCg.CompRest prog w A h₀ L m env elt x scope cl s S (OctetAt b) Fin b.size 0 [] news :=
  mc_int_str g (KBw.ints_length b) (octets_at b) (fun k t I oI C oC D m₂ ys h tk E' hk => turn k t I oI C oC D m₂ ys h tk E' (KBw.ints_in hk).1 (KBw.ints_in hk).2) fin

/-- after a branch: a name holds a text, the ledger stands -/
noncomputable def Sent (h₀ : Heap) (L : Addr) (news : List (Addr × Obj)) (y v : Str) (s : Shared) (fl : Flow) (s₂ : Shared) : Prop :=
  fl = .next ∧ ∃ t h₂ tk₂, ∃ u : Str → Option Value, s₂ = { s with heap := h₂, toks := tk₂ } ∧ Fr h₀ L h₂ (fun z => if z = y then some (.str v t) else u z) ∧ News h₀ L h₂ news
theorem sent_join {M : Model} {tree : Sem Flow} {y v : Str} {Q : Flow → Shared → Prop} {E : Value → Shared → Prop} {s₀ : Shared} (_N : News h₀ L s.heap news) (h1 : wpAny M A tree (Sent h₀ L news y v s₀) E s)
    (h2 : ∀ t h₂ tk₂ (u : Str → Option Value), Fr h₀ L h₂ (fun z => if z = y then some (.str v t) else u z) → News h₀ L h₂ news → Q .next { s₀ with heap := h₂, toks := tk₂ }) : wpAny M A tree Q E s :=
  wpAny_mono h1 (fun fl s₂ ⟨e, t, h₂, tk₂, u, e₂, F, N⟩ => by subst e; subst e₂; exact h2 t h₂ tk₂ u F N) fun _ _ e => e
theorem sent_mk {y v v' : Str} {t : Tok} {s₀ : Shared} {h : Heap} {tk : Nat} {u : Str → Option Value} {all : List (Addr × Obj)} (F : Fr h₀ L h (fun z => if z = y then some (.str v' t) else u z)) (N : News h₀ L h all) (e : v' = v) (sub : ∀ p ∈ news, p ∈ all) :
    Sent h₀ L news y v s₀ .next { s₀ with heap := h, toks := tk } := by
  subst e
  exact ⟨rfl, t, h, tk, u, rfl, F, fun p hp => N p (sub p hp)⟩
end
theorem bytes_codes {prog : Program} {w : World} {A : Around} {E : Value → Shared → Prop} {s : Shared} {D : Addr} {vs : List Value} {l : List Nat} {Q : Value → Shared → Prop} (hl : s.heap.IsList D vs.toArray) (hi : IntsAre vs (l.map fun (c : Nat) => (c : Int)))
    (hr : ∀ c ∈ l, c < 256) (hz : l.length ≤ 1000000) (hh : A.handled = none)
    (hQ : ∀ h' t k, s.heap.StaysIn h' → Q (.bytes (u8 l).toArray t) { s with heap := h', toks := k }) : wpAny (model prog w) A (call (.type "bytes") [.ref D]) Q E s := by
  refine call_bytes_ints hl hi (fun n hn => ?_) (by rw [hi.length, sizeLine_eq, List.length_map]; omega) hh fun h' t k st => ?_
  · obtain ⟨c, hc, e⟩ := List.mem_map.1 hn
    have := hr c hc
    omega
  · have e : byteArr (l.map fun (c : Nat) => (c : Int)) = (u8 l).toArray := by
      unfold byteArr u8
      simp
    rw [e]
    exact hQ h' t k st
theorem numsB_u8 (l : List Nat) (h : ∀ c ∈ l, c < 256) : (numsB (u8 l).toArray).toList = l := by
  unfold numsB u8
  simp
  induction l with
  | nil => rfl
  | cons a r ih =>
    have ha : a < 256 := h a (.head _)
    rw [List.map_cons, ih (fun c hc => h c (.tail _ hc))]
    congr 1
    show a % 256 = a
    omega
theorem chr_u8 (l : List Nat) (h : ∀ c ∈ l, c < 256) : (KBw.bInts (u8 l).toArray).map (fun k => (⟨#[k.toNat]⟩ : Str)) = (l.map fun c => [c]).map fun q => ⟨q.toArray⟩ := by
  unfold KBw.bInts u8
  simp
  intro a ha
  have := h a ha
  show a % 256 = a
  omega
theorem flat_ones (l : List Nat) : (l.map fun c => [c]).flatten = l := by
  induction l with
  | nil => rfl
  | cons a r ih => rw [List.map_cons, List.flatten_cons, ih]; rfl
theorem fix_small : ∀ (n : Nat) (l : List Nat), l.length ≤ n → (∀ c ∈ l, c < 256) → ∀ c ∈ fixL l, c < 256
  | _, [], _, _, c, hc => by simp [fixL] at hc
  | 0, a :: r, hl, _, _, _ => by simp at hl
  | n + 1, a :: r, hl, h, c, hc => by
    by_cases h2 : a = 13 ∧ r.head? = some 10
    · obtain ⟨rfl, h10⟩ := h2
      cases r with
      | nil => simp at h10
      | cons b r =>
        simp at h10
        subst h10
        rw [fixL_crlf] at hc
        rcases List.mem_cons.mp hc with rfl | hc
        · omega
        rcases List.mem_cons.mp hc with rfl | hc
        · omega
        exact fix_small n r (by simp at hl; omega) (fun c hc => h c (.tail _ (.tail _ hc))) c hc
    · rw [fixL_cons a r h2] at hc
      have ih := fix_small n r (by simp at hl; omega) (fun c hc => h c (.tail _ hc))
      split at hc
      · rcases List.mem_cons.mp hc with rfl | hc
        · omega
        rcases List.mem_cons.mp hc with rfl | hc
        · omega
        exact ih c hc
      · rcases List.mem_cons.mp hc with rfl | hc
        · exact h _ (.head _)
        exact ih c hc
theorem quote_small : ∀ (l : List Nat) (b : Bool), (∀ c ∈ l, c < 256) → ∀ c ∈ quoteL b l, c < 256
  | [], b, _, c, hc => by simp [quoteL] at hc
  | a :: r, b, h, c, hc => by
    rw [quoteL] at hc
    split at hc
    · rcases List.mem_cons.mp hc with rfl | hc
      · omega
      rcases List.mem_cons.mp hc with rfl | hc
      · omega
      exact quote_small r _ (fun c hc => h c (.tail _ hc)) c hc
    · rcases List.mem_cons.mp hc with rfl | hc
      · exact h _ (.head _)
      exact quote_small r _ (fun c hc => h c (.tail _ hc)) c hc
theorem en_small (i : Int) : ∀ c ∈ en i, c < 256 := by
  unfold en
  rcases fmod_cases3 i with e | e | e <;> rw [e] <;> decide
theorem rowL_small (ns : List Int) (span cell k : Int) : ∀ c ∈ rowL ns span cell k, c < 256 := by
  intro c hc
  unfold rowL at hc
  rcases List.mem_append.mp hc with hc | hc
  · rcases List.mem_append.mp hc with hc | hc
    · have := (List.mem_replicate.mp hc).2; omega
    · have := sg_in cell
      rw [List.mem_singleton.mp hc]
      omega
  · exact en_small _ c hc
/-- the mail -/
noncomputable def mailL (ns : List Int) (span cell : Int) : List Nat := ((rangeKs 0 16).map (rowL ns span cell)).flatten ++ en cell ++ en (cell + 1) ++ [46] ++ (if cell.fmod 2 = 1 then en cell else [])
theorem mailL_small (ns : List Int) (span cell : Int) : ∀ c ∈ mailL ns span cell, c < 256 := by
  intro c hc
  unfold mailL at hc
  rcases List.mem_append.mp hc with hc | hc
  · rcases List.mem_append.mp hc with hc | hc
    · rcases List.mem_append.mp hc with hc | hc
      · rcases List.mem_append.mp hc with hc | hc
        · obtain ⟨l, hl, hc⟩ := List.mem_flatten.mp hc
          obtain ⟨k, _, rfl⟩ := List.mem_map.mp hl
          exact rowL_small _ _ _ _ c hc
        · exact en_small _ c hc
      · exact en_small _ c hc
    · rw [List.mem_singleton.mp hc]; decide
  · split at hc
    · exact en_small _ c hc
    · cases hc
theorem mailL_len {ns : List Int} (hb : Hold (∀ n ∈ ns, n = 0 ∨ n = 1)) (span cell : Int) : (mailL ns span cell).length ≤ 100 := by
  have h1 := flat_len (rowL ns span cell) 5 (rowL_len hb span cell) (rangeKs 0 16)
  rw [rangeKs_length] at h1
  have h2 := en_len cell
  have h3 := en_len (cell + 1)
  unfold mailL
  split <;> simp only [List.length_append, List.length_cons, List.length_nil] <;> omega
end Mine
end
section
open PySem.W in
example : True := by
  w_top off
  trivial
open PySem PySem.W PyProof.Rows PySem.Calls
set_option maxRecDepth 100000
set_option maxHeartbeats 16000000
namespace Mine
/-- a sent line -/
noncomputable def qrow (ns : List Int) (span cell k : Int) : List Nat := (if dn ns span k = 0 then [] else 46 :: List.replicate (dn ns span k) 46) ++ [sg cell]
noncomputable def headL (ns : List Int) (span cell : Int) : List (List Nat) := (rangeKs 0 16).map (qrow ns span cell)
noncomputable def footL (cell : Int) : List (List Nat) := if cell.fmod 2 = 1 then [[], [], [46, 46], []] else [[], [], [46, 46]]
noncomputable def glue : List (List Nat) → List Nat
  | [] => []
  | [a] => a
  | a :: b :: r => a ++ 13 :: 10 :: glue (b :: r)

theorem fix_run (n c : Nat) (hc : c ≠ 10 ∧ c ≠ 13) (r : List Nat) : fixL (List.replicate n 46 ++ c :: r) = List.replicate n 46 ++ c :: fixL r := by
  induction n with
  | zero =>
    show fixL (c :: r) = _
    rw [fixL_cons c r (by omega), if_neg (by omega)]
    rfl
  | succ n ih =>
    rw [List.replicate_succ, List.cons_append, fixL_cons _ _ (by omega), if_neg (by decide), ih]
    rfl
theorem fix_en (i : Int) (r : List Nat) (h : r.head? ≠ some 10) : fixL (en i ++ r) = 13 :: 10 :: fixL r := by
  unfold en
  rcases fmod_cases3 i with e | e | e <;> rw [e]
  · show fixL (10 :: r) = _
    rw [fixL_cons _ _ (by omega), if_pos (by omega)]
  · show fixL (13 :: r) = _
    rw [fixL_cons _ _ (fun q => h q.2), if_pos (by omega)]
  · exact fixL_crlf r
theorem fix_row (ns : List Int) (span cell k : Int) (r : List Nat) (h : r.head? ≠ some 10) :
    fixL (rowL ns span cell k ++ r) = List.replicate (dn ns span k) 46 ++ sg cell :: 13 :: 10 :: fixL r := by
  have hs := sg_in cell
  unfold rowL
  rw [List.append_assoc, List.append_assoc, List.singleton_append, fix_run _ _ (by omega), fix_en _ _ h]
theorem row_head (ns : List Int) (span cell k : Int) (r : List Nat) : (rowL ns span cell k ++ r).head? ≠ some 10 := by
  have hs := sg_in cell
  unfold rowL
  cases dn ns span k with
  | zero => simp; omega
  | succ n => simp [List.replicate_succ]
theorem quote_run (n c : Nat) (hc : c ≠ 10 ∧ c ≠ 46) (r : List Nat) : quoteL true (List.replicate n 46 ++ c :: 13 :: 10 :: r) = ((if n = 0 then [] else 46 :: List.replicate n 46) ++ [c]) ++ 13 :: 10 :: quoteL true r := by
  have tail : ∀ b, quoteL b (c :: 13 :: 10 :: r) = c :: 13 :: 10 :: quoteL true r := by
    intro b
    rw [quoteL, if_neg (by omega)]
    have e1 : (c == 10) = false := by simp; omega
    rw [e1, quoteL, if_neg (by simp), show ((13 : Nat) == 10) = false from rfl, quoteL, if_neg (by simp)]
    rfl
  have run : ∀ n, quoteL false (List.replicate n 46 ++ c :: 13 :: 10 :: r) = List.replicate n 46 ++ c :: 13 :: 10 :: quoteL true r := by
    intro n
    induction n with
    | zero => exact tail false
    | succ n ih =>
      rw [List.replicate_succ, List.cons_append, quoteL, if_neg (by simp), show ((46 : Nat) == 10) = false from rfl, ih]
      rfl
  cases n with
  | zero => rw [if_pos rfl]; exact tail true
  | succ n =>
    rw [if_neg (by omega), List.replicate_succ, List.cons_append, quoteL, if_pos ⟨rfl, rfl⟩, run]
    simp
noncomputable def footM (cell : Int) : List Nat := en cell ++ (en (cell + 1) ++ (46 :: (if cell.fmod 2 = 1 then en cell else [])))
theorem mailL_eq (ns : List Int) (span cell : Int) : mailL ns span cell = ((rangeKs 0 16).map (rowL ns span cell)).flatten ++ footM cell := by
  unfold mailL footM
  simp
theorem foot_sent (cell : Int) : quoteL true (fixL (footM cell)) = glue (footL cell) := by
  have h1 : ∀ r : List Nat, (46 :: r).head? ≠ some 10 := by intro r; simp
  have h2 : (en (cell + 1) ++ (46 :: (if cell.fmod 2 = 1 then en cell else []))).head? ≠ some 10 ∨ cell.fmod 3 ≠ 1 := by
    by_cases e : cell.fmod 3 = 1
    · left
      have e2 : (cell + 1).fmod 3 = 2 := by
        rw [Int.fmod_eq_emod_of_nonneg _ (by decide)] at *
        omega
      unfold en
      rw [e2]
      simp
    · exact .inr e
  have key : fixL (footM cell) = 13 :: 10 :: 13 :: 10 :: 46 :: (if cell.fmod 2 = 1 then [13, 10] else []) := by
    have h3 : fixL (if cell.fmod 2 = 1 then en cell else []) = if cell.fmod 2 = 1 then [13, 10] else [] := by
      split
      · have := fix_en cell [] (by simp)
        rw [List.append_nil] at this
        rw [this]
        rfl
      · rfl
    have h4 : fixL (46 :: (if cell.fmod 2 = 1 then en cell else [])) = 46 :: (if cell.fmod 2 = 1 then [13, 10] else []) := by
      rw [fixL_cons _ _ (by omega), if_neg (by decide), h3]
    have h5 := fix_en (cell + 1) _ (h1 (if cell.fmod 2 = 1 then en cell else []))
    rw [h4] at h5
    have h6 : ∀ i : Int, ∀ r : List Nat, i.fmod 3 ≠ 1 → fixL (en i ++ r) = 13 :: 10 :: fixL r := by
      intro i r hi
      unfold en
      rcases fmod_cases3 i with e | e | e <;> rw [e]
      · show fixL (10 :: r) = _
        rw [fixL_cons _ _ (by omega), if_pos (by omega)]
      · exact absurd e hi
      · exact fixL_crlf r
    unfold footM
    rcases h2 with h2 | h2
    · rw [fix_en _ _ h2, h5]
    · rw [h6 _ _ h2, h5]
  rw [key]
  unfold footL
  split <;> decide
theorem foot_head (cell : Int) : (footM cell).head? ≠ some 10 ∨ True := .inr trivial
/-- the last row's end before the foot: a bare return never stands before a bare newline -/
theorem fix_rows (ns : List Int) (span cell : Int) : ∀ (ks : List Int) (last : Int), (∀ r, r = footM cell → (cell + last).fmod 3 = 1 → r.head? ≠ some 10) → (∀ k, ks.getLast? = some k → k = last) →
    quoteL true (fixL ((ks.map (rowL ns span cell)).flatten ++ footM cell)) = glue (ks.map (qrow ns span cell) ++ footL cell)
  | [], _, _, _ => by
    show quoteL true (fixL ([] ++ footM cell)) = glue ([] ++ footL cell)
    rw [List.nil_append, List.nil_append]
    exact foot_sent cell
  | k :: ks, last, h, hl => by
    have hs := sg_in cell
    have ih := fix_rows ns span cell ks last h (fun k' hk' => by
      cases ks with
      | nil => simp at hk'
      | cons a r => exact hl k' (by rw [List.getLast?_cons_cons]; exact hk'))
    have hg : ∀ l r, r ≠ [] → glue (l :: r) = l ++ 13 :: 10 :: glue r := by
      intro l r hr
      cases r with
      | nil => exact absurd rfl hr
      | cons a r => rfl
    have hne : ks.map (qrow ns span cell) ++ footL cell ≠ [] := by
      unfold footL
      split <;> simp
    have hfix : fixL (rowL ns span cell k ++ ((ks.map (rowL ns span cell)).flatten ++ footM cell)) = List.replicate (dn ns span k) 46 ++ sg cell :: 13 :: 10 :: fixL ((ks.map (rowL ns span cell)).flatten ++ footM cell) := by
      cases ks with
      | cons a r =>
        refine fix_row ns span cell k _ ?_
        rw [List.map_cons, List.flatten_cons, List.append_assoc]
        exact row_head ns span cell a _
      | nil =>
        have hk : k = last := hl k rfl
        subst hk
        show fixL (rowL ns span cell k ++ ([] ++ footM cell)) = _ ++ sg cell :: 13 :: 10 :: fixL ([] ++ footM cell)
        rw [List.nil_append]
        by_cases e : (cell + k).fmod 3 = 1
        · exact fix_row ns span cell k _ (h _ rfl e)
        · unfold rowL
          rw [List.append_assoc, List.append_assoc, List.singleton_append, fix_run _ _ (by omega)]
          congr 2
          unfold en
          rcases fmod_cases3 (cell + k) with e' | e' | e' <;> rw [e']
          · show fixL (10 :: footM cell) = _
            rw [fixL_cons _ _ (by omega), if_pos (by omega)]
          · exact absurd e' e
          · exact fixL_crlf _
    rw [List.map_cons, List.flatten_cons, List.append_assoc, hfix, quote_run _ _ (by omega), ih, List.map_cons, List.cons_append, hg _ _ hne]
    rfl
theorem sent_eq (ns : List Int) (span cell : Int) : quoteL true (fixL (mailL ns span cell)) = glue (headL ns span cell ++ footL cell) := by
  rw [mailL_eq]
  refine fix_rows ns span cell (rangeKs 0 16) 15 (fun r hr e => ?_) (fun k hk => ?_)
  · subst hr
    have e1 : cell.fmod 3 = 1 := by
      rw [Int.fmod_eq_emod_of_nonneg _ (by decide)] at *
      omega
    unfold footM en
    rw [e1]
    simp
  · have : (rangeKs 0 16).getLast? = some 15 := by decide
    rw [this] at hk
    cases hk
    rfl
end Mine
end
section
open PySem.W in
example : True := by
  w_top off
  trivial
open PySem PySem.W PyProof.Rows PySem.Calls PySem.StrLaws PySem.Builtin PySem.Builtin.Str
set_option maxRecDepth 100000
set_option maxHeartbeats 16000000
namespace Mine
noncomputable def crlf : Str := Str.ofString "\r\n"
theorem crlf_cps : crlf = ⟨#[13, 10]⟩ := by decide
theorem at_iff (x : Str) (c : Nat) : At x crlf x.length c ↔ (x.cps.toList.drop c).take 2 = [13, 10] := by
  have hl : x.length = x.cps.toList.length := by simp [Str.length]
  constructor
  · intro h
    have := h.2
    rw [subAt_eq, crlf_cps] at this
    exact eq_of_beq this
  · intro h
    refine ⟨?_, ?_⟩
    · have := congrArg List.length h
      simp at this
      have e : crlf.length = 2 := by decide
      rw [e, hl]
      simp
      omega
    · rw [subAt_eq, crlf_cps]
      exact beq_iff_eq.mpr h
theorem glue_cons (l : List Nat) {r : List (List Nat)} (hr : r ≠ []) : glue (l :: r) = l ++ 13 :: 10 :: glue r := by
  cases r with
  | nil => exact absurd rfl hr
  | cons a r => rfl
theorem take2 {l : List Nat} {c : Nat} (h : (l.drop c).take 2 = [13, 10]) : l[c]? = some 13 := by
  have : (l.drop c)[0]? = some 13 := by
    have h2 := congrArg (fun q => q[0]?) h
    simp at h2
    simpa using h2
  simpa using this
theorem parts_eq (x : Str) : ∀ (ls : List (List Nat)) (a : Nat) (cuts : List Nat) (f : Nat), ls ≠ [] → (∀ l ∈ ls, 13 ∉ l) → x.cps.toList.drop a = glue ls → ChainG x crlf x.length a cuts f → (∀ k, f ≤ k → ¬ At x crlf x.length k) →
    partsFrom x crlf.length a cuts = ls.map fun l => ⟨l.toArray⟩
  | [], _, _, _, h, _, _, _, _ => absurd rfl h
  | [l], a, cuts, f, _, hf, hd, hc, hn => by
    have h13 := hf l (.head _)
    have hd' : x.cps.toList.drop a = l := hd
    cases cuts with
    | cons c r =>
      exfalso
      have hac := hc.1
      have h := (at_iff x c).mp hc.2.1
      have h2 := take2 h
      refine h13 (List.mem_of_getElem? (i := c - a) ?_)
      rw [← hd', List.getElem?_drop, show a + (c - a) = c from by omega]
      exact h2
    | nil =>
      show [strSub x a x.length] = [_]
      congr 1
      apply Str.ext'
      apply Array.toList_inj.mp
      rw [strSub_toList, hd']
      have hl : l.length ≤ x.length - a := by
        rw [← hd']; simp [Str.length]
      rw [List.take_of_length_le hl]
  | l :: b :: r, a, cuts, f, _, hf, hd, hc, hn => by
    have h13 := hf l (.head _)
    have hd' : x.cps.toList.drop a = l ++ 13 :: 10 :: glue (b :: r) := hd
    have hp : At x crlf x.length (a + l.length) := by
      rw [at_iff, ← List.drop_drop, hd']
      simp
    cases cuts with
    | nil =>
      have e : f = a := hc
      exact absurd hp (hn _ (by omega))
    | cons c t =>
      have hac := hc.1
      have hcp : c = a + l.length := by
        have h1 : ¬ a + l.length < c := fun h => hc.2.2.1 _ (by omega) h hp
        have h2 : ¬ c < a + l.length := by
          intro h
          have h3 := take2 ((at_iff x c).mp hc.2.1)
          have h4 : (x.cps.toList.drop a)[c - a]? = some 13 := by
            rw [List.getElem?_drop, show a + (c - a) = c from by omega]; exact h3
          rw [hd', List.getElem?_append_left (by omega)] at h4
          exact h13 (List.mem_of_getElem? h4)
        omega
      subst hcp
      have e2 : crlf.length = 2 := by decide
      have ih := parts_eq x (b :: r) (a + l.length + crlf.length) t f (by simp) (fun q hq => hf q (.tail _ hq)) (by
        rw [e2, Nat.add_assoc, ← List.drop_drop, hd']
        simp) hc.2.2.2 hn
      show strSub x a (a + l.length) :: partsFrom x crlf.length (a + l.length + crlf.length) t = _
      rw [ih, List.map_cons]
      congr 1
      apply Str.ext'
      apply Array.toList_inj.mp
      rw [strSub_toList, hd', show a + l.length - a = l.length from by omega]
      simp
theorem split_glue (ls : List (List Nat)) (h0 : ls ≠ []) (hf : ∀ l ∈ ls, 13 ∉ l) (h2 : 2 ≤ (glue ls).length) : Txt.split ⟨(glue ls).toArray⟩ crlf = ls.map fun l => ⟨l.toArray⟩ := by
  have e2 : crlf.length = 2 := by decide
  obtain ⟨f, hc, hn⟩ := occ_tight ⟨(glue ls).toArray⟩ crlf (by decide)
  have key := parts_eq ⟨(glue ls).toArray⟩ ls 0 _ f h0 hf (by simp) hc hn
  unfold Txt.split
  have hlen : (⟨(glue ls).toArray⟩ : Str).length = (glue ls).length := by simp [Str.length]
  have hk : ¬ (decide ((⟨(glue ls).toArray⟩ : Str).length < crlf.length) || decide (Builtin.Str.strKind ⟨(glue ls).toArray⟩ < Builtin.Str.strKind crlf)) = true := by
    have k1 : Builtin.Str.strKind crlf = 1 := by rw [crlf_cps]; unfold Builtin.Str.strKind; simp
    have k2 : ∀ x : Str, 1 ≤ Builtin.Str.strKind x := by
      intro x
      unfold Builtin.Str.strKind
      split
      · exact Nat.le_refl _
      · split <;> decide
    have := k2 ⟨(glue ls).toArray⟩
    rw [hlen, e2, k1]
    simp
    omega
  rw [if_neg hk]
  split
  · rename_i he
    have : occurrences ⟨(glue ls).toArray⟩ crlf 0 (⟨(glue ls).toArray⟩ : Str).length ((⟨(glue ls).toArray⟩ : Str).length + 1) = [] := by simpa using he
    rw [this] at key
    rw [← key]
    show [_] = [strSub _ 0 _]
    rw [sub_whole]
  · rw [partsBetween_eq]
    exact key
theorem glue_len (ls : List (List Nat)) : ls.length * 2 ≤ (glue ls).length + 2 := by
  induction ls with
  | nil => simp
  | cons a r ih =>
    cases r with
    | nil => simp
    | cons b r =>
      rw [glue_cons _ (by simp)]
      simp at ih ⊢
      omega
theorem qrow_free (ns : List Int) (span cell k : Int) : 13 ∉ qrow ns span cell k := by
  have hs := sg_in cell
  unfold qrow
  intro h
  rcases List.mem_append.mp h with h | h
  · split at h
    · cases h
    · rcases List.mem_cons.mp h with h | h
      · omega
      · have := (List.mem_replicate.mp h).2; omega
  · rw [List.mem_singleton] at h; omega
theorem foot_free (cell : Int) : ∀ l ∈ footL cell, 13 ∉ l := by
  unfold footL
  split <;> decide
theorem foot_ne (cell : Int) : footL cell ≠ [] := by
  unfold footL
  split <;> decide
theorem split_law (ns : List Int) (span cell : Int) : Txt.split ⟨(quoteL true (fixL (mailL ns span cell))).toArray⟩ (Str.ofString "\r\n") = (headL ns span cell ++ footL cell).map fun l => ⟨l.toArray⟩ := by
  rw [sent_eq]
  have hn : headL ns span cell ++ footL cell ≠ [] := fun h => foot_ne cell (List.append_eq_nil_iff.mp h).2
  refine split_glue _ hn (fun l hl => ?_) ?_
  · rcases List.mem_append.mp hl with hl | hl
    · obtain ⟨k, _, rfl⟩ := List.mem_map.mp hl
      exact qrow_free _ _ _ _
    · exact foot_free cell l hl
  · have h := glue_len (headL ns span cell ++ footL cell)
    have : (headL ns span cell).length = 16 := by unfold headL; simp [rangeKs_length]
    rw [List.length_append] at h
    omega
end Mine
end
section
open PySem.W in
example : True := by
  w_top off
  trivial
open PySem PySem.W PyProof.Rows PySem.Calls PySem.Spec
set_option maxRecDepth 100000
set_option maxHeartbeats 16000000
namespace Mine
/-- the next branch is walked -/
inductive GoOn : Prop where
  | mk
theorem strs_drop : ∀ (n : Nat) {vs : List Value} {ks : List Str}, StrsAre vs ks → StrsAre (vs.drop n) (ks.drop n)
  | 0, _, _, h => by simpa using h
  | _ + 1, _, _, .nil => by simpa using StrsAre.nil
  | n + 1, _, _, .cons _ _ h => by simpa using strs_drop n h
theorem strs_take : ∀ (n : Nat) {vs : List Value} {ks : List Str}, StrsAre vs ks → StrsAre (vs.take n) (ks.take n)
  | 0, _, _, _ => by simpa using StrsAre.nil
  | _ + 1, _, _, .nil => by simpa using StrsAre.nil
  | n + 1, _, _, .cons y t h => by simpa using StrsAre.cons y t (strs_take n h)
section
variable {prog : Program} {w : World} {A : Around} {E : Value → Shared → Prop} {s : Shared} {value slice : PySem.Expr} {h₀ : Heap} {L l : Addr} {m : PySem.Str → Option Value} {news : List (Addr × Obj)} {vs : List Value} {ks : List Str} {k : Nat} {t : Tok} {Q : Value → Shared → Prop}
theorem text_from (F : Fr h₀ L s.heap m) (N : News h₀ L s.heap news) (hl : s.heap.IsList l vs.toArray) (hi : StrsAre vs ks)
    (h : ∀ D ws h', Fr h₀ L h' m → News h₀ L h' ((D, listOf (List.toArray ws) 0) :: news) → (∀ p ∈ news, p.1 < D) → StrsAre ws (ks.drop k) → Q (.ref D) { s with heap := h' })
    (hs : subscripted slice false (.ref l) (.ref s.heap.objs.size) = operate [.ref s.heap.objs.size, .ref l] (getItem (.ref l) (.ref s.heap.objs.size)) := by with_unfolding_all rfl)
    (ht : ∀ r, letTemporaryGo value (.ref l) r = pure () := by intro _; with_unfolding_all rfl) (hz : vs.length ≤ 1000000) :
    wpAny (model prog w) A (subscriptTail value slice (.ref l) (.ref s.heap.objs.size)) Q E { s with heap := s.heap.push { cls := .type "slice", data := .fields #[.int (k : Int) t, .none, .none] } } := by
  refine slice_list F N hl (.int _ t) .none (fun h' F' N' => ?_) hs ht (by rw [List.size_toArray, sizeLine_eq]; omega)
  rw [slicePick_from'] at N'
  exact h (s.heap.objs.size + 1) _ h' F' N' (fun p hp => Nat.lt_succ_of_lt (Heap.lt_size (N p hp).1)) (strs_drop k hi)
theorem text_upto {i : Int} (hk : i = (k : Int)) (F : Fr h₀ L s.heap m) (N : News h₀ L s.heap news) (hl : s.heap.IsList l vs.toArray) (hi : StrsAre vs ks)
    (h : ∀ D ws h', Fr h₀ L h' m → News h₀ L h' ((D, listOf (List.toArray ws) 0) :: news) → (∀ p ∈ news, p.1 < D) → StrsAre ws (ks.take k) → Q (.ref D) { s with heap := h' })
    (hs : subscripted slice false (.ref l) (.ref s.heap.objs.size) = operate [.ref s.heap.objs.size, .ref l] (getItem (.ref l) (.ref s.heap.objs.size)) := by with_unfolding_all rfl)
    (ht : ∀ r, letTemporaryGo value (.ref l) r = pure () := by intro _; with_unfolding_all rfl) (hz : vs.length ≤ 1000000) :
    wpAny (model prog w) A (subscriptTail value slice (.ref l) (.ref s.heap.objs.size)) Q E { s with heap := s.heap.push { cls := .type "slice", data := .fields #[.none, .int i t, .none] } } := by
  subst hk
  refine slice_list F N hl .none (.int _ t) (fun h' F' N' => ?_) hs ht (by rw [List.size_toArray, sizeLine_eq]; omega)
  rw [slicePick_upto'] at N'
  exact h (s.heap.objs.size + 1) _ h' F' N' (fun p hp => Nat.lt_succ_of_lt (Heap.lt_size (N p hp).1)) (strs_take k hi)
theorem index_strs {x : Str} (hl : s.heap.IsList l vs.toArray) (hi : StrsAre vs ks) (hz : ks.length ≤ 1000000) (hk : x ∈ ks)
    (h : Q (.int (ks.idxOf x : Nat) s.toks) { s with toks := s.toks + 1 }) : wpAny (model prog w) A (call (.builtin "list.index") [.ref l, .str x t]) Q E s := by
  obtain ⟨⟨cls, dd, data, sl⟩, ho, hc, n, hd⟩ := id hl
  simp only at hc hd
  subst hc hd
  have hlen := strs_length hi
  have hj : ks.idxOf x < ks.length := List.idxOf_lt_length_iff.mpr hk
  have at_ : ∀ (vs : List Value) (ks : List Str), StrsAre vs ks → ∀ j (h1 : j < vs.length) (h2 : j < ks.length), isStrOf x vs[j] = (ks[j] == x) := by
    intro vs ks hi
    induction hi with
    | nil => intro j h1; exact absurd h1 (Nat.not_lt_zero _)
    | cons y t _ ih =>
      intro j h1 h2
      cases j with
      | zero => rfl
      | succ j => exact ih j (by simpa using h1) (by simpa using h2)
  refine call_meets PySem.F.slot_list_index ⟨_, ho, rfl⟩ PySem.F.entry_list_index (PySem.F.args_list_index_2 _ _)
    (PySem.SeqAt.list_indexAt l vs.toArray n dd sl (.str x t) (isStrOf x) (ks.idxOf x) (by simpa [hlen] using hj) (by omega) ?_ ?_) ⟨ho, fun y hy => (eq_isStrOf x t hi y (by simpa using hy)).at _ _, h⟩
  · show isStrOf x vs[ks.idxOf x] = true
    rw [at_ vs ks hi _ (by omega) hj]
    simpa using List.getElem_idxOf hj
  · intro j hjs hlt
    show isStrOf x vs[j] = false
    rw [at_ vs ks hi j (by simpa using hjs) (by omega)]
    have h9 := List.not_of_lt_findIdx (p := (· == x)) (xs := ks) (i := j) hlt
    simpa using h9
theorem lay_strs : ∀ ns : List Str, (∀ k ∈ ns, PyData.strOk k = true) → PyData.canLayAll0 (ns.map PyData.str) = true
  | [], _ => rfl
  | a :: r, h => by simp [PyData.canLayAll0, PyData.canLay0, lay_strs r fun k hk => h k (.tail _ hk), h a (.head _)]
theorem depth_strs : ∀ ns : List Str, PyData.depthAll (ns.map PyData.str) = 0
  | [] => rfl
  | _ :: r => by simp [PyData.depthAll, PyData.depth, depth_strs r]
theorem shaped_strs (ns : List Str) (h : ∀ k ∈ ns, PyData.strOk k = true) : SeqAt.shaped (.list (ns.map PyData.str)) = true := by
  simp [SeqAt.shaped, PyData.canLay0, PyData.depth, lay_strs ns h, depth_strs]
theorem same_strs : ∀ ns : List Str, PySem.Spec.sameAll (ns.map PyData.str) (ns.map PyData.str) = true
  | [] => by simp [PySem.Spec.sameAll]
  | a :: r => by simp [PySem.Spec.sameAll, PySem.Spec.same, same_strs r]
theorem ne_texts {a b : Addr} {xs ys : List Value} (ha : s.heap.IsList a xs.toArray) (hb : s.heap.IsList b ys.toArray) (hi : StrsAre xs ks) (hj : StrsAre ys ks) (hok : ∀ k ∈ ks, PyData.strOk k = true) (hu : A.units + 64 < cLine) (h : Q (.bool false) s) :
    wpAny (model prog w) A (compareOp .NotEq (.ref a) (.ref b)) Q E s :=
  ne_dataH_same (reads_newData ha hi.carried) (reads_newData hb hj.carried) (shaped_strs _ hok) (shaped_strs _ hok) hu (SeqAt.noMix_of_shape (.list .str) rfl _ _ (list_map_has fun _ => rfl) (list_map_has fun _ => rfl)) (by
    have e : PySem.Spec.same (.list (ks.map PyData.str)) (.list (ks.map PyData.str)) = true := by
      simp only [PySem.Spec.same]; exact same_strs ks
    rw [e]; exact h)
end
/-! the names -/
noncomputable def sw (c : Nat) : Nat := if c = 46 then 34 else c
theorem join_sw : ∀ parts : List Str, (∀ p ∈ parts, 46 ∉ p.cps.toList) → ((Str.join ⟨#[46]⟩ parts).cps.toList).map sw = (Str.join ⟨#[34]⟩ parts).cps.toList
  | [], _ => rfl
  | [p], h => by
    have h46 := h p (.head _)
    show p.cps.toList.map sw = p.cps.toList
    have : p.cps.toList.map sw = p.cps.toList.map id := List.map_congr_left fun c hc => by
      unfold sw
      rw [if_neg (fun e => h46 (by rw [← e]; exact hc))]
      rfl
    rw [this, List.map_id]
  | p :: q :: r, h => by
    have h46 := h p (.head _)
    have ih := join_sw (q :: r) fun a ha => h a (.tail _ ha)
    have hp : p.cps.toList.map sw = p.cps.toList := by
      have : p.cps.toList.map sw = p.cps.toList.map id := List.map_congr_left fun c hc => by
        unfold sw
        rw [if_neg (fun e => h46 (by rw [← e]; exact hc))]
        rfl
      rw [this, List.map_id]
    show ((p ++ ⟨#[46]⟩ ++ Str.join ⟨#[46]⟩ (q :: r)).cps.toList).map sw = (p ++ ⟨#[34]⟩ ++ Str.join ⟨#[34]⟩ (q :: r)).cps.toList
    simp only [Str.cps_append, Array.toList_append, List.map_append]
    rw [ih, hp]
    rfl
theorem replace_sw (x : Str) : Txt.replace x (Str.ofString ".") (Str.ofString "\"") = ⟨(x.cps.toList.map sw).toArray⟩ := by
  have e1 : Str.ofString "." = ⟨#[46]⟩ := by decide
  have e2 : Str.ofString "\"" = ⟨#[34]⟩ := by decide
  rw [e1, e2, StrLaws.replace_one]
  have h := join_sw _ (StrLaws.split_free x 46)
  rw [StrLaws.join_split] at h
  rw [h]
/-- the three kinds -/
noncomputable def kindL (cell : Int) (n : Nat) : List Nat := if n = 0 then [sg cell] else if n = 1 then [34, sg cell] else [34]
noncomputable def kindsT (cell : Int) : List Str := [⟨[sg cell].toArray⟩, ⟨[34, sg cell].toArray⟩, ⟨[34].toArray⟩]
theorem unq_tail (cell : Int) : unq (sg cell :: tl cell) = [sg cell] := by
  have hs := sg_in cell
  rw [unq_plain _ _ (by omega)]
  unfold tl
  rcases fmod_cases3 cell with e | e | e <;> rw [e]
  · rfl
  · show sg cell :: unq [34] = _
    rw [unq_end _ (by simp)]
  · show sg cell :: unq (34 :: [32, 40, 46, 41]) = _
    rw [unq_end _ (by simp)]
theorem name_law {ns : List Int} (hb : Hold (∀ n ∈ ns, n = 0 ∨ n = 1)) (span cell k : Int) : unq ((qrow ns span cell k).map sw ++ tl cell) = kindL cell (dn ns span k) := by
  have hs := sg_in cell
  have h46 : sw (sg cell) = sg cell := by unfold sw; rw [if_neg (by omega)]
  have hd := dn_le hb span k
  unfold qrow kindL
  have h : dn ns span k = 0 ∨ dn ns span k = 1 ∨ dn ns span k = 2 := by omega
  rcases h with e | e | e <;> rw [e]
  · show unq (sw (sg cell) :: tl cell) = [sg cell]
    rw [h46]; exact unq_tail cell
  · show unq (34 :: 34 :: sw (sg cell) :: tl cell) = [34, sg cell]
    rw [h46, unq_mark2, unq_tail]
  · show unq (34 :: 34 :: 34 :: sw (sg cell) :: tl cell) = [34]
    rw [h46, unq_mark2, unq_end]
    simp; omega
theorem kinds_ne (cell : Int) : ([sg cell] ≠ [34, sg cell]) ∧ ([sg cell] ≠ [34]) ∧ ([34, sg cell] ≠ [34]) := by
  have hs := sg_in cell
  refine ⟨by simp, ?_, by simp⟩
  simp; omega
theorem mk_ne {a b : List Nat} (h : a ≠ b) : (⟨a.toArray⟩ : Str) ≠ ⟨b.toArray⟩ := by
  intro e
  injection e with e
  exact h (by simpa using congrArg Array.toList e)
theorem kindsT_get (cell : Int) {n : Nat} (hn : n ≤ 2) : (⟨(kindL cell n).toArray⟩ : Str) ∈ kindsT cell ∧ (kindsT cell).idxOf (⟨(kindL cell n).toArray⟩ : Str) = n := by
  obtain ⟨h1, h2, h3⟩ := kinds_ne cell
  have g1 := mk_ne h1
  have g2 := mk_ne h2
  have g3 := mk_ne h3
  have h : n = 0 ∨ n = 1 ∨ n = 2 := by omega
  unfold kindsT kindL
  rcases h with rfl | rfl | rfl
  · rw [if_pos rfl]
    exact ⟨.head _, by rw [List.idxOf_cons_self]⟩
  · rw [if_neg (by decide), if_pos rfl]
    refine ⟨.tail _ (.head _), ?_⟩
    rw [List.idxOf_cons, beq_eq_false_iff_ne.mpr g1, List.idxOf_cons_self]; rfl
  · rw [if_neg (by decide), if_neg (by decide)]
    refine ⟨.tail _ (.tail _ (.head _)), ?_⟩
    rw [List.idxOf_cons, beq_eq_false_iff_ne.mpr g2, List.idxOf_cons, beq_eq_false_iff_ne.mpr g3, List.idxOf_cons_self]; rfl
theorem counts (cell : Int) : ∀ ds : List Nat, (∀ d ∈ ds, d ≤ 2) →
    PySem.Spec.countIn (.str ⟨[sg cell].toArray⟩) ((ds.map fun d => (⟨(kindL cell d).toArray⟩ : Str)).map PyData.str) + PySem.Spec.countIn (.str ⟨[34, sg cell].toArray⟩) ((ds.map fun d => (⟨(kindL cell d).toArray⟩ : Str)).map PyData.str) + PySem.Spec.countIn (.str ⟨[34].toArray⟩) ((ds.map fun d => (⟨(kindL cell d).toArray⟩ : Str)).map PyData.str) = ds.length
  | [], _ => rfl
  | d :: r, h => by
    have ih := counts cell r fun x hx => h x (.tail _ hx)
    have hd := h d (.head _)
    obtain ⟨h1, h2, h3⟩ := kinds_ne cell
    have g1 := mk_ne h1
    have g2 := mk_ne h2
    have g3 := mk_ne h3
    have hc : d = 0 ∨ d = 1 ∨ d = 2 := by omega
    simp only [List.map_cons, PySem.Spec.countIn, List.length_cons]
    have k0 : kindL cell 0 = [sg cell] := rfl
    have k1 : kindL cell 1 = [34, sg cell] := rfl
    have k2 : kindL cell 2 = [34] := rfl
    have yes : ∀ a : Str, PySem.Spec.same (.str a) (.str a) = true := fun a => by simp only [PySem.Spec.same]; exact beq_self_eq_true a
    have no : ∀ a b : Str, a ≠ b → PySem.Spec.same (.str a) (.str b) = false := fun a b hab => by simp only [PySem.Spec.same]; exact beq_eq_false_iff_ne.mpr hab
    rcases hc with rfl | rfl | rfl
    · rw [k0, yes, no _ _ g1, no _ _ g2]
      simp only [if_true, Bool.false_eq_true, if_false]
      push_cast; omega
    · rw [k1, no _ _ g1.symm, yes, no _ _ g3]
      simp only [if_true, Bool.false_eq_true, if_false]
      push_cast; omega
    · rw [k2, no _ _ g2.symm, no _ _ g3.symm, yes]
      simp only [if_true, Bool.false_eq_true, if_false]
      push_cast; omega
theorem qrow_len {ns : List Int} (hb : Hold (∀ n ∈ ns, n = 0 ∨ n = 1)) (span cell k : Int) : (qrow ns span cell k).length ≤ 4 := by
  have := dn_le hb span k
  unfold qrow
  split <;> simp <;> omega
theorem headL_len (ns : List Int) (span cell : Int) : (headL ns span cell).length = 16 := by unfold headL; simp [rangeKs_length]
theorem drop_foot (ns : List Int) (span cell : Int) : (List.map (fun l : List Nat => (⟨l.toArray⟩ : Str)) (headL ns span cell ++ footL cell)).drop 16 = (footL cell).map fun l => ⟨l.toArray⟩ := by
  rw [List.map_append, List.drop_append_of_le_length (by simp [headL_len]), List.drop_of_length_le (by simp [headL_len]), List.nil_append]
theorem take_head (ns : List Int) (span cell : Int) : (List.map (fun l : List Nat => (⟨l.toArray⟩ : Str)) (headL ns span cell ++ footL cell)).take 16 = (headL ns span cell).map fun l => ⟨l.toArray⟩ := by
  rw [List.map_append, List.take_append_of_le_length (by simp [headL_len]), List.take_of_length_le (by simp [headL_len])]
theorem take_foot (cell : Int) : [Str.ofString "", Str.ofString "", Str.ofString "..", Str.ofString ""].take (3 + (cell.fmod 2).toNat) = (footL cell).map fun l => ⟨l.toArray⟩ := by
  unfold footL
  rcases fmod_cases2 cell with e | e <;> rw [e] <;> decide
theorem foot_len (cell : Int) : (footL cell).length ≤ 4 := by
  unfold footL
  split <;> decide
theorem foot_ok (cell : Int) : ∀ k ∈ (footL cell).map (fun l : List Nat => (⟨l.toArray⟩ : Str)), PyData.strOk k = true := by
  have h0 : PyData.strOk ⟨([] : List Nat).toArray⟩ = true := by simp [PyData.strOk]
  have h2 : PyData.strOk ⟨[46, 46].toArray⟩ = true := by simp [PyData.strOk]
  intro k hk
  obtain ⟨l, hl, rfl⟩ := List.mem_map.1 hk
  have : l = [] ∨ l = [46, 46] := by
    unfold footL at hl
    split at hl <;> simp at hl <;> grind
  rcases this with rfl | rfl
  · exact h0
  · exact h2
noncomputable def nameT (cell : Int) (x : Str) : Str := ⟨(unq (x.cps.toList.map sw ++ tl cell)).toArray⟩
theorem names_eq {ns : List Int} (hb : Hold (∀ n ∈ ns, n = 0 ∨ n = 1)) (span cell : Int) : (((headL ns span cell).map fun l => (⟨l.toArray⟩ : Str)).map (nameT cell)) = ((rangeKs 0 16).map (dn ns span)).map fun d => ⟨(kindL cell d).toArray⟩ := by
  unfold headL
  rw [List.map_map, List.map_map, List.map_map]
  refine List.map_congr_left fun k _ => ?_
  show nameT cell ⟨(qrow ns span cell k).toArray⟩ = _
  unfold nameT
  show (⟨(unq ((qrow ns span cell k).map sw ++ tl cell)).toArray⟩ : Str) = _
  rw [name_law hb]
  rfl
theorem parse_arg (cell : Int) (x : Str) : Str.ofString "257 \"" ++ (⟨(x.cps.toList.map sw).toArray⟩ : Str) ++ tailT cell = ⟨(head257 ++ (x.cps.toList.map sw ++ tl cell)).toArray⟩ := by
  have e : Str.ofString "257 \"" = ⟨head257.toArray⟩ := by decide
  rw [e, tailT_cps, str_mk, str_mk, List.append_assoc]
theorem short_257 : Short (Str.ofString "257 \"") 5 := by unfold Short; decide
theorem short_q : Short (Str.ofString "\"") 1 := by unfold Short; decide
/-- what a turn of the ring gives -/
noncomputable def ledOf (ns : List Int) (span : Int) : List Int := (rangeKs 0 16).map fun k => (ns.getD k.toNat 0 + ns.getD ((k + span).fmod 16).toNat 0).fmod 2
theorem led_eq {ns : List Int} (hb : Hold (∀ n ∈ ns, n = 0 ∨ n = 1)) (span cell : Int) : (((rangeKs 0 16).map (dn ns span)).map fun d => (⟨(kindL cell d).toArray⟩ : Str)).map (fun x => (((kindsT cell).idxOf x : Nat) : Int).fmod 2) = ledOf ns span := by
  unfold ledOf
  rw [List.map_map, List.map_map]
  refine List.map_congr_left fun k _ => ?_
  show (((kindsT cell).idxOf (⟨(kindL cell (dn ns span k)).toArray⟩ : Str) : Nat) : Int).fmod 2 = _
  have h := two_bits hb k.toNat ((k + span).fmod 16).toNat
  rw [(kindsT_get cell (dn_le hb span k)).2]
  unfold dn
  congr 1
  omega
theorem tl_len (i : Int) : (tl i).length ≤ 5 := by
  unfold tl
  rcases fmod_cases3 i with e | e | e <;> rw [e] <;> decide
theorem kinds_eq (cell : Int) : [signT cell, Str.ofString "\"" ++ signT cell, Str.ofString "\""] = kindsT cell := by
  have e : Str.ofString "\"" = ⟨[34].toArray⟩ := by decide
  rw [signT_cps, e, show (⟨#[sg cell]⟩ : Str) = ⟨[sg cell].toArray⟩ from rfl, str_mk]
  rfl
theorem sum_16 {ns : List Int} (hb : Hold (∀ n ∈ ns, n = 0 ∨ n = 1)) (span cell : Int) : ((kindsT cell).map fun x => PySem.Spec.countIn (.str x) ((((rangeKs 0 16).map (dn ns span)).map fun d => (⟨(kindL cell d).toArray⟩ : Str)).map PyData.str)).sum = 16 := by
  have h := counts cell ((rangeKs 0 16).map (dn ns span)) fun d hd => by
    obtain ⟨q, _, rfl⟩ := List.mem_map.1 hd
    exact dn_le hb span q
  have hl : ((rangeKs 0 16).map (dn ns span)).length = 16 := by rw [List.length_map, rangeKs_length]
  rw [hl] at h
  unfold kindsT
  simp only [List.map_cons, List.map_nil, List.sum_cons, List.sum_nil]
  omega
end Mine
end
section
open PySem.W in
example : True := by
  w_top off
  trivial
open PySem PySem.W PyProof.Rows PySem.Calls
set_option maxRecDepth 100000
set_option maxHeartbeats 16000000
namespace Mine
example (w : World) : hd.heap_39 w.params = hd.heap_39 w.params ∧ PySem.Challenge.rw_xc0005_01 = PySem.Challenge.rw_xc0005_01 := by
  k_fill
  exact ⟨rfl, rfl⟩
local macro_rules | `(tactic| walk_at "exec Assign cons ListComp") => `(tactic| (k_here; k_dflt (refine LCg.Assign_ListComp_U (F₀ := by k_asm) (by rfl) (by with_unfolding_all rfl) (by with_unfolding_all rfl) (by decide) (by rfl) (by decide) (by rfl) (by rfl) (by rfl) ?_)))
local macro_rules | `(tactic| walk_at "CompSrc") => `(tactic| refine Halt.out ?_)
local macro_rules | `(tactic| walk_at "MEl") => `(tactic| exact ⟨rfl, _, rfl⟩)
local macro_rules | `(tactic| walk_at "binaryOp Mult str int") => `(tactic| (k_here; first
  | ((refine mul_few (two_bits (by assumption) _ _).1 (two_bits (by assumption) _ _).2 (by decide) ?_); intro _ _ mL; (try dsimp only))
  | ((refine mul_few (one_bit _).1 (one_bit _).2 (endT_len _) ?_); intro _ _ mL; (try dsimp only))))
local macro_rules | `(tactic| walk_at "CompEnd") => `(tactic| refine Halt.out ?_)
local macro_rules | `(tactic| walk_at "binaryOp Add str str") => `(tactic| (k_here; (refine add_short (s := ⟨_, _, _, _, _⟩) (by with_reducible repeat' (first | refine' short_add ?_ ?_ | exact short_end _ | exact short_257 | exact short_q | exact short_tail _ | exact short_item _ _ | exact short_dot | (refine' short_mul ?_; assumption) | (refine' short_mk ?_; assumption))) (by with_reducible repeat' (first | refine' short_add ?_ ?_ | exact short_end _ | exact short_257 | exact short_q | exact short_tail _ | exact short_item _ _ | exact short_dot | (refine' short_mul ?_; assumption) | (refine' short_mk ?_; assumption))) (by decide) ?_); intro _ _; (try dsimp only)))
local macro_rules | `(tactic| walk_at "exec If") => `(tactic| ((fail_if_success (with_reducible show wpAny _ _ (exec _ _) (Sent _ _ _ _ _ _) _ _)); (fail_if_success (have h9 : GoOn := by with_reducible assumption)); refine Halt.out ?_))
local macro_rules | `(tactic| walk_at "subscriptTail Name Slice ref ref") => `(tactic| refine Halt.out ?_)
local macro_rules | `(tactic| walk_at "subscriptTail") => `(tactic| ((with_reducible show wpAny _ _ (subscriptTail _ (PySem.Expr.Slice _ _ _ _) (Value.ref _) (Value.ref _)) _ _ _); refine Halt.out ?_))
local macro_rules | `(tactic| walk_at "compareOp NotEq ref ref") => `(tactic| refine Halt.out ?_)
local macro_rules | `(tactic| walk_at "call builtin:str.replace") => `(tactic| refine Halt.out ?_)
local macro_rules | `(tactic| walk_at "call builtin:list.index") => `(tactic| refine Halt.out ?_)
local macro_rules | `(tactic| walk_at "call builtin:list.count") => `(tactic| refine Halt.out ?_)

local macro_rules | `(tactic| walk_at "eval ListComp") => `(tactic| refine Halt.out ?_)
local macro_rules | `(tactic| walk_at "call builtin:str.split") => `(tactic| refine Halt.out ?_)
local macro_rules | `(tactic| walk_at "call type:bytes") => `(tactic| refine Halt.out ?_)
local macro_rules | `(tactic| walk_at "call builtin:ord") => `(tactic| (k_here; refine P.ord_of_char ?_; (try dsimp only)))
local macro_rules | `(tactic| walk_at "call builtin:chr") => `(tactic| (k_here; refine chr_of_range (by omega) (by omega) ?_; (try dsimp only)))
local macro_rules | `(tactic| walk_at "call ref") => `(tactic| refine Halt.out ?_)
local macro_rules | `(tactic| walk_at "call builtin:str.join") => `(tactic| refine Halt.out ?_)
section
variable {w : World} {dp un : Nat} {gd : Option (List Code)} {outer : List Env} {base : Heap} {loose : List Str} {mean : ExcName → Option Value} {mg mb : Str → Option Value} {s : Shared}
  {Q E : Value → Shared → Prop}

theorem c_led (S : Sit w dp un outer base s.heap loose mean mg mb) {r : Addr} {vs : List Value} {ns : List Int} (hroom : dp + 20 < recursionLimit) (hunit : un + 400 < cLine) (hL : s.heap.IsList r vs.toArray) (hI : IntsAre vs ns) (h16 : ns.length = 16) (hbits : Hold (∀ n ∈ ns, n = 0 ∨ n = 1))
    {span cell : Int} {ts tc : Tok} (hs0 : 0 ≤ span) (hs1 : span ≤ 15)
    (hQ : Hold (∀ a vs' n h' tk', s.heap.StaysIn h' → s.heap.get? a = none → h'.get? a = some { cls := .type "list", data := .seq vs' n } → IntsAre vs'.toList (ledOf ns span) → Q (.ref a) { s with heap := h', toks := tk' })) :
    wpAny (model theProg w) (arnd dp un gd outer) (call (.ref 123) [.ref r, .int span ts, .int cell tc]) Q E s := by
  obtain ⟨B, X, T, hr, hu⟩ := id S
  refine wpAny_call ?_
  refine' enterC S ?k6 ?k7 ?k9 ?kB ?kD ?_ ?c2 ?c3 ?c4; (case k6 => k_is); (case k7 => k_is); (case k9 => exact BindsTo.of_eq rfl); (case kB => exact rfl); (case kD => decide +kernel); (case c2 => exact rfl); (case c3 => exact rfl); (case c4 => exact rfl)
  intro L' h₁ tk' cells' F N Y'
  have hY := CellsAre.eight Y'
  obtain ⟨o1, o2, o3, o4, o5, o6, o7, o8, hE', d1, d2, d3, d4, d5, d6, d7, d8⟩ := hY
  subst hE'
  clear Y'
  replace F : Fr s.heap L' h₁ (fun _ => none) := F
  replace d1 : o1.data = .cell none := d1
  replace d2 : o2.data = .cell none := d2
  replace d3 : o3.data = .cell none := d3
  replace d4 : o4.data = .cell none := d4
  replace d5 : o5.data = .cell none := d5
  replace d6 : o6.data = .cell (some (.int cell tc)) := d6
  replace d7 : o7.data = .cell (some (.int span ts)) := d7
  replace d8 : o8.data = .cell (some (.ref r)) := d8
  try dsimp only
  (show wpAny _ _ _ _ _ _)
  k_fold
  k_with_none
  k_with "table" => skip
  k_steps
  refine Halt.mk ?_
  k_dflt (refine LCg.CompSrc.range (by rfl) (by k_asm) (by k_asm) (by assumption) (by decide) (by first | exact rangeSize_nat _ _ | rfl) (by exact Nat.le_of_ble_eq_true rfl) ?_)
  intro g'
  refine mc_range_str (rowT ns span cell) (fun k' t' I' oI' C' oC' D' m' ys' h' tk' E' hlo' hhi' hC' hx' F' N' off' ne' => ?_) (fun ys' hS' => ?_)
  · have off9 := off'
    simp only [LCg.Off3, and_true] at off'
    k_steps
    refine Halt.mk ?_
    exact LCg.CompEnd.intro F' N' _ (fun _ hp => hp) off9 trivial ⟨rfl, _, rfl⟩
  k_steps
  refine Halt.mk ?_
  have hRows : (rangeKs 0 (16 - 0 : Int).toNat).map (rowT ns span cell) = ((rangeKs 0 16).map (rowL ns span cell)).map fun l => ⟨l.toArray⟩ := by
    rw [List.map_map]
    exact List.map_congr_left fun k _ => rowT_cps hbits span cell k
  rw [hRows] at hS'
  clear hRows
  have hRL : (⟨((rangeKs 0 16).map (rowL ns span cell)).flatten.toArray⟩ : Str).length ≤ 80 := by
    have := flat_len (rowL ns span cell) 5 (rowL_len hbits span cell) (rangeKs 0 16)
    rw [rangeKs_length] at this
    exact this
  generalize hR : ((rangeKs 0 16).map (rowL ns span cell)).flatten = RL at hRL
  refine join_all (News.isList (by k_asm) (by k_mem)) hS' (by rw [hR]; exact Nat.le_trans hRL (by decide)) ?_
  intro _ _
  rw [hR]
  try dsimp only
  k_steps
  have hM : (⟨RL.toArray⟩ : Str) ++ endT cell ++ endT (cell + 1) ++ Str.ofString "." ++ Txt.mul (endT cell) (cell.fmod 2) = ⟨(mailL ns span cell).toArray⟩ := by
    have e46 : Str.ofString "." = ⟨[46].toArray⟩ := by decide
    rw [endT_cps, endT_cps, mul_en, e46, str_mk, str_mk, str_mk, str_mk, ← hR]
    rfl
  unfold endT at hM
  (rename Fr _ _ _ _ => F9)
  rw [hM] at F9
  clear hM hR hRL
  generalize hML : mailL ns span cell = ML at F9
  have hMz : ML.length ≤ 100 := hML ▸ mailL_len hbits span cell
  have hMs : ∀ c ∈ ML, c < 256 := hML ▸ mailL_small ns span cell
  refine Halt.mk ?_
  (rename News _ _ _ _ => N9)
  refine sent_join (y := Str.ofString "sent") (v := ⟨(quoteL true (fixL ML)).toArray⟩) (s₀ := s) N9 ?_ ?_
  · k_steps
    · refine Halt.mk ?_
      (rename Fr _ _ _ _ => F8)
      (rename News _ _ _ _ => N8)
      refine c_quotedata (sit_of (dp := dp + 1) (un := un + 3) B F8 X T rfl rfl (by omega) (by omega)) (by simp; omega) ?_
      intro t5 h5 k5 st5
      replace F8 := keepsFr F8 st5
      replace N8 := keepsNews N8 st5
      clear st5
      try dsimp only
      k_steps
      exact sent_mk (by k_asm) (by k_asm) (by simp) (fun _ hp => hp)
    · refine Halt.mk ?_
      k_dflt (refine ListComp_W (F₀ := by k_asm) (by with_unfolding_all rfl) (by decide) (by rfl) (by decide) (by rfl) ?_)
      k_steps
      refine Halt.mk ?_
      (rename Fr _ _ _ _ => F8)
      (rename News _ _ _ _ => N8)
      refine c_eol (sit_of (dp := dp + 1) (un := un + 3) B F8 X T rfl rfl (by omega) (by omega)) (by simp; omega) ?_
      intro t5 h5 k5 st5
      replace F8 := keepsFr F8 st5
      replace N8 := keepsNews N8 st5
      clear st5
      have hFz : (fixL ML).length ≤ 200 := Nat.le_trans (fixL_len _ ML (Nat.le_refl _)) (by omega)
      refine MSrc.intro (own_str rfl _ _) F8 N8 (by rw [sizeLine_eq]; simp; omega) ?_
      intro g'
      refine mc_sign_int _ (fun c => (c : Int)) (fun k' t' I' oI' C' oC' D' m' ys' h' tk' E' hk' hC' hx' F' N' off' ne' => ?_) (fun ys5 hS5 => ?_)
      · have off9 := off'
        simp only [LCg.Off3, and_true] at off'
        k_steps
        refine Halt.mk ?_
        exact LCg.CompEnd.intro F' N' _ (fun _ hp => hp) off9 trivial ⟨rfl, _, rfl⟩
      k_steps
      refine Halt.mk ?_
      (rename Fr _ _ _ _ => F8)
      (rename News _ _ _ _ => N8)
      have hFs := fix_small _ ML (Nat.le_refl _) hMs
      refine bytes_codes (l := fixL ML) (N8.isList (by k_mem)) hS5 hFs (by omega) rfl ?_
      intro h5 t5 k5 st5
      replace F8 := keepsFr F8 st5
      replace N8 := keepsNews N8 st5
      clear st5
      try dsimp only
      k_steps
      refine Halt.mk ?_
      (rename Fr _ _ _ _ => F8)
      (rename News _ _ _ _ => N8)
      refine c_periods (sit_of (dp := dp + 1) (un := un + 3) B F8 X T rfl rfl (by omega) (by omega)) (by simp [u8]; omega) ?_
      rw [numsB_u8 _ hFs]
      have hQz := quoteL_len (fixL ML) true
      have hQs := quote_small (fixL ML) true hFs
      intro t5 h5 k5 st5
      replace F8 := keepsFr F8 st5
      replace N8 := keepsNews N8 st5
      clear st5
      try dsimp only
      k_steps
      refine Halt.mk ?_
      k_dflt (refine ListComp_W (F₀ := by k_asm) (by with_unfolding_all rfl) (by decide) (by rfl) (by decide) (by rfl) ?_)
      k_steps
      (rename Fr _ _ _ _ => F8)
      (rename News _ _ _ _ => N8)
      refine MSrc.intro (own_bytes rfl _ _) F8 N8 (by rw [sizeLine_eq]; simp [u8]; omega) ?_
      intro g'
      refine mc_octet_str _ (fun k => ⟨#[k.toNat]⟩) (fun k' t' I' oI' C' oC' D' m' ys' h' tk' E' hlo' hhi' hC' hx' F' N' off' ne' => ?_) (fun ys6 hS6 => ?_)
      · have off9 := off'
        simp only [LCg.Off3, and_true] at off'
        k_steps
        refine Halt.mk ?_
        exact LCg.CompEnd.intro F' N' _ (fun _ hp => hp) off9 trivial ⟨rfl, _, rfl⟩
      rw [chr_u8 _ hQs] at hS6
      k_steps
      refine Halt.mk ?_
      (rename News _ _ _ _ => N8)
      refine join_all (N8.isList (by k_mem)) hS6 (by rw [flat_ones]; omega) ?_
      intro _ _
      rw [flat_ones]
      try dsimp only
      k_steps
      exact sent_mk (by k_asm) (by k_asm) rfl (fun _ hp => .tail _ (.tail _ hp))
  · clear hMz hMs F9 N9
    intro t6 h6 k6 u6 F6 N6
    subst hML
    try dsimp only
    k_steps
    refine Halt.mk ?_
    (rename Fr _ _ _ _ => F8)
    (rename News _ _ _ _ => N8)
    refine KSpl.split1 F8 N8 rfl ?_ (by
      have h1 := mailL_len hbits span cell
      have h2 := fixL_len _ (mailL ns span cell) (Nat.le_refl _)
      have h3 := quoteL_len (fixL (mailL ns span cell)) true
      rw [sizeLine_eq]
      simp [Str.length]
      omega)
    clear F8 N8
    intro D7 l7 h7 k7 e7 a7 F7 N7 lt7
    rw [split_law] at e7
    rw [e7] at a7
    clear e7
    generalize hV : strValues l7 = V7 at a7 N7
    clear hV
    k_lt lt7
    try dsimp only
    k_steps
    have go : GoOn := .mk
    refine Halt.mk ?_
    k_steps
    refine Halt.mk ?_
    (rename Fr _ _ _ _ => F8)
    (rename News _ _ _ _ => N8)
    have hV7 : V7.length ≤ 20 := by
      rw [strs_length a7, List.length_map, List.length_append, headL_len]
      have := foot_len cell
      omega
    refine text_from (s := ⟨_, _, _, _, _⟩) (k := 16) F8 N8 (N8.isList (by k_mem)) a7 ?_ (hz := by omega)
    clear F8 N8
    intro D8 w8 h8 F8 N8 lt8 a8
    rw [drop_foot] at a8
    k_lt lt8
    try dsimp only
    k_steps
    refine Halt.mk ?_
    (rename Fr _ _ _ _ => F8)
    (rename News _ _ _ _ => N8)
    refine kba_turn (value' := PySem.Expr.Name (PySem.Str.ofString "_") ⟨0, 0, 0, 0⟩) (fun _ => rfl) ?_
    refine text_upto (s := ⟨_, _, _, _, _⟩) (k := 3 + (cell.fmod 2).toNat) (by have := one_bit cell; omega) F8 N8 (N8.isList (by k_mem)) (StrsAre.cons _ _ (.cons _ _ (.cons _ _ (.cons _ _ .nil)))) ?_ (hz := by simp)
    clear F8 N8
    intro D9 w9 h9 F8 N8 lt9 a9
    rw [take_foot] at a9
    k_lt lt9
    try dsimp only
    k_steps
    refine Halt.mk ?_
    (rename Fr _ _ _ _ => F8)
    (rename News _ _ _ _ => N8)
    refine ne_texts (N8.isList (by k_mem)) (N8.isList (by k_mem)) a8 a9 (foot_ok cell) (by show un + 3 + 64 < cLine; omega) ?_
    try dsimp only
    clear a8 a9 go
    k_steps
    refine Halt.mk ?_
    k_dflt (refine LCg.ListComp_U (F₀ := by k_asm) (by with_unfolding_all rfl) (by decide) (by rfl) (by decide) (by rfl) ?_)
    k_steps
    refine Halt.mk ?_
    (rename Fr _ _ _ _ => F8)
    (rename News _ _ _ _ => N8)
    refine text_upto (s := ⟨_, _, _, _, _⟩) (k := 16) rfl F8 N8 (N8.isList (by k_mem)) a7 ?_ (hz := by omega)
    clear F8 N8
    intro D10 w10 h10 F8 N8 lt10 a10
    rw [take_head] at a10
    k_lt lt10
    try dsimp only
    k_steps
    refine Halt.mk ?_
    have hW10 : w10.length = 16 := by rw [strs_length a10, List.length_map, headL_len]
    k_dflt (refine LCg.CompSrc.ledger (by rfl) (by k_asm) (by k_asm) (by k_mem) (by rw [List.size_toArray, hW10]; decide) ?_)
    intro g'
    refine mc_str_str (nameT cell) (by rw [List.size_toArray, strs_length a10]) (texts_at a10) (fun k' t' I' oI' C' oC' D' m' ys' h' tk' E' hk' hC' hx' F' N' off' ne' => ?_) (fun ys11 hS11 => ?_)
    · have off9 := off'
      have hkz : k'.length ≤ 4 := by
        obtain ⟨l, hl, rfl⟩ := List.mem_map.1 hk'
        obtain ⟨q, _, rfl⟩ := List.mem_map.1 hl
        exact qrow_len hbits span cell q
      simp only [LCg.Off3, and_true] at off'
      k_steps
      refine Halt.mk ?_
      refine SC.replaceW (by first | omega | (simp; first | done | omega)) (by first | omega | (simp; first | done | omega)) (by first | omega | (simp; first | done | omega)) (by decide) (by omega) (by decide) ?_
      intro t5 k5
      rw [replace_sw]
      have hRz : (⟨(k'.cps.toList.map sw).toArray⟩ : Str).length ≤ 80 := by
        have : k'.cps.size ≤ 4 := hkz
        simp [Str.length]
        omega
      try dsimp only
      k_steps
      refine Halt.mk ?_
      have hA := parse_arg cell k'
      unfold tailT at hA
      rw [hA]
      (rename Fr _ _ _ _ => F8)
      (rename News _ _ _ _ => N8)
      refine c_parse (sit_of (dp := dp + 1) (un := un + 3) B F8 X T rfl rfl (by omega) (by omega)) ?hz5 rfl ?_
      case hz5 =>
        have h1 : k'.cps.size ≤ 4 := hkz
        have h2 := tl_len cell
        simp [head257]
        omega
      intro t6 h6 k6 st6
      replace F8 := keepsFr F8 st6
      replace N8 := keepsNews N8 st6
      clear st6 hA
      exact LCg.CompEnd.intro F8 N8 _ (fun _ hp => hp) off9 (.inr ⟨_, .head _, rfl, _, rfl⟩) ⟨rfl, _, rfl⟩
    rw [names_eq hbits] at hS11
    k_steps
    have go : GoOn := .mk
    refine Halt.mk ?_
    k_steps
    refine Halt.mk ?_
    k_dflt (refine LCg.ListComp_U (F₀ := by k_asm) (by with_unfolding_all rfl) (by decide) (by rfl) (by decide) (by rfl) ?_)
    k_steps
    refine Halt.mk ?_
    have hK : [Txt.item (Str.ofString "x -\x0b\u0085") (cell.fmod 5), Str.ofString "\"" ++ Txt.item (Str.ofString "x -\x0b\u0085") (cell.fmod 5), Str.ofString "\""] = kindsT cell := kinds_eq cell
    k_dflt (refine LCg.CompSrc.ledger (by rfl) (by k_asm) (by k_asm) (by k_mem) (by size_fits) ?_)
    intro g'
    refine mc_str_int (ks := kindsT cell) (fun x => PySem.Spec.countIn (.str x) ((((rangeKs 0 16).map (dn ns span)).map fun d => (⟨(kindL cell d).toArray⟩ : Str)).map PyData.str)) rfl (texts_at (vs := [_, _, _]) (hK ▸ StrsAre.cons _ _ (.cons _ _ (.cons _ _ .nil)))) (fun k' t' I' oI' C' oC' D' m' ys' h' tk' E' hk' hC' hx' F' N' off' ne' => ?_) (fun ys12 hS12 => ?_)
    · have off9 := off'
      simp only [LCg.Off3, and_true] at off'
      k_steps
      refine Halt.mk ?_
      refine count_list_strs (N'.isList (by k_mem)) hS11 ?_
      exact LCg.CompEnd.intro F' N' _ (fun _ hp => hp) off9 (.inr ⟨_, by k_mem, rfl, _, rfl⟩) ⟨rfl, _, rfl⟩
    have hSum := sum_16 hbits span cell
    k_steps
    · exact absurd hSum (by assumption)
    refine Halt.mk ?_
    k_dflt (refine LCg.ListComp_U (F₀ := by k_asm) (by with_unfolding_all rfl) (by decide) (by rfl) (by decide) (by rfl) ?_)
    k_steps
    refine Halt.mk ?_
    have hZ11 : ys11.length = 16 := by rw [strs_length hS11, List.length_map, List.length_map, rangeKs_length]
    k_dflt (refine LCg.CompSrc.ledger (by rfl) (by k_asm) (by k_asm) (by k_mem) (by rw [List.size_toArray, hZ11]; decide) ?_)
    intro g'
    refine mc_str_int (fun x => (((kindsT cell).idxOf x : Nat) : Int).fmod 2) (by rw [List.size_toArray, strs_length hS11]) (texts_at hS11) (fun k' t' I' oI' C' oC' D' m' ys' h' tk' E' hk' hC' hx' F' N' off' ne' => ?_) (fun ys13 hS13 => ?_)
    · have off9 := off'
      have hk2 : k' ∈ kindsT cell := by
        obtain ⟨d, hd, rfl⟩ := List.mem_map.1 hk'
        obtain ⟨q, _, rfl⟩ := List.mem_map.1 hd
        exact (kindsT_get cell (dn_le hbits span q)).1
      simp only [LCg.Off3, and_true] at off'
      k_steps
      refine Halt.mk ?_
      refine index_strs (N'.isList (by k_mem)) (hK ▸ StrsAre.cons _ _ (.cons _ _ (.cons _ _ .nil))) (by show (3 : Nat) ≤ 1000000; decide) hk2 ?_
      try dsimp only
      k_steps
      refine Halt.mk ?_
      exact LCg.CompEnd.intro F' N' _ (fun _ hp => hp) off9 (.inr ⟨_, by k_mem, rfl, _, rfl⟩) ⟨rfl, _, rfl⟩
    rw [led_eq hbits] at hS13
    k_steps
    all_goals (try dsimp only)
    all_goals (try k_unfold)
    all_goals (try dsimp only)
    refine leaveP_ (by k_asm) (by k_asm) fun st hn => ?_
    exact hQ.out _ _ _ _ _ st (hn _ (.head _)).2 (hn _ (.head _)).1 hS13
end
end Mine
end
section
open PySem.W in
example : True := by
  w_top off
  trivial
open PySem PySem.W PyProof.Rows PySem.Calls
set_option maxRecDepth 100000
set_option maxHeartbeats 16000000
namespace Mine
/-- a ring of sixteen lamps -/
noncomputable def bits (n : Nat) : List Int := (rangeKs 0 16).map fun k => if n.testBit k.toNat then 1 else 0
theorem bits_len (n : Nat) : (bits n).length = 16 := by unfold bits; rw [List.length_map, rangeKs_length]
theorem bits_01 (n : Nat) : ∀ k ∈ bits n, k = 0 ∨ k = 1 := by
  intro k hk
  obtain ⟨j, _, rfl⟩ := List.mem_map.1 hk
  split
  · exact .inr rfl
  · exact .inl rfl
theorem apB_size {n : Nat} : (apB n).size ≤ 4 := by
  have key : ∀ (f n : Nat), (digs f n).length ≤ f := by
    intro f
    induction f with
    | zero => intro n; exact Nat.le_refl _
    | succ f ih =>
      intro n
      unfold digs
      split
      · exact Nat.zero_le _
      · have := ih (n / 16)
        simp
        exact this
  unfold apB
  simpa using key 4 n
noncomputable def rot (n s : Nat) : Nat := ((65537 * n) >>> s) % 65536
noncomputable def stepA (s n : Nat) : Nat := n ^^^ rot n s
theorem rot_lt (n s : Nat) : rot n s < 65536 := Nat.mod_lt _ (by decide)
theorem stepA_lt {s n : Nat} (h : n < 65536) : stepA s n < 65536 := Nat.xor_lt_two_pow (n := 16) h (rot_lt n s)
theorem rot_bit {n s k : Nat} (h : n < 65536) (hs : s ≤ 16) (hk : k < 16) : (rot n s).testBit k = n.testBit ((k + s) % 16) := by
  unfold rot
  rw [show (65536 : Nat) = 2 ^ 16 from rfl, Nat.testBit_mod_two_pow, Nat.testBit_shiftRight, show 65537 * n = 2 ^ 16 * n + n from by omega, Nat.testBit_two_pow_mul_add _ (show n < 2 ^ 16 from h)]
  have h1 : decide (k < 16) = true := by simpa using hk
  rw [h1, Bool.true_and]
  by_cases h2 : s + k < 16
  · rw [if_pos h2, Nat.mod_eq_of_lt (by omega : k + s < 16), Nat.add_comm]
  · rw [if_neg h2]
    congr 1
    omega
theorem stepA_bit {n s k : Nat} (h : n < 65536) (hs : s ≤ 16) (hk : k < 16) : (stepA s n).testBit k = (n.testBit k ^^ n.testBit ((k + s) % 16)) := by
  unfold stepA
  rw [Nat.testBit_xor, rot_bit h hs hk]
theorem word_ext {a b : Nat} (ha : a < 65536) (hb : b < 65536) (h : ∀ k, k < 16 → a.testBit k = b.testBit k) : a = b := by
  refine Nat.eq_of_testBit_eq fun i => ?_
  by_cases hi : i < 16
  · exact h i hi
  · rw [Nat.testBit_lt_two_pow (Nat.lt_of_lt_of_le ha (Nat.pow_le_pow_right (by decide) (by omega) : 2 ^ 16 ≤ 2 ^ i)), Nat.testBit_lt_two_pow (Nat.lt_of_lt_of_le hb (Nat.pow_le_pow_right (by decide) (by omega) : 2 ^ 16 ≤ 2 ^ i))]
theorem stepA_twice {n s : Nat} (h : n < 65536) (hs : s + s ≤ 16) : stepA s (stepA s n) = stepA (s + s) n := by
  refine word_ext (stepA_lt (stepA_lt h)) (stepA_lt h) fun k hk => ?_
  rw [stepA_bit (stepA_lt h) (by omega) hk, stepA_bit h (by omega) hk, stepA_bit h (by omega) (Nat.mod_lt _ (by decide)), stepA_bit h hs hk]
  have e : ((k + s) % 16 + s) % 16 = (k + (s + s)) % 16 := by omega
  rw [e]
  cases n.testBit k <;> cases n.testBit ((k + s) % 16) <;> cases n.testBit ((k + (s + s)) % 16) <;> rfl
theorem stepA_comm {n s t : Nat} (h : n < 65536) (hs : s ≤ 16) (ht : t ≤ 16) : stepA s (stepA t n) = stepA t (stepA s n) := by
  refine word_ext (stepA_lt (stepA_lt h)) (stepA_lt (stepA_lt h)) fun k hk => ?_
  have m := fun x => Nat.mod_lt x (show 0 < 16 by decide)
  rw [stepA_bit (stepA_lt h) hs hk, stepA_bit h ht hk, stepA_bit h ht (m _), stepA_bit (stepA_lt h) ht hk, stepA_bit h hs hk, stepA_bit h hs (m _)]
  have e : ((k + s) % 16 + t) % 16 = ((k + t) % 16 + s) % 16 := by omega
  rw [e]
  cases n.testBit k <;> cases n.testBit ((k + s) % 16) <;> cases n.testBit ((k + t) % 16) <;> cases n.testBit (((k + t) % 16 + s) % 16) <;> rfl
theorem stepA_16 {n : Nat} (h : n < 65536) : stepA 16 n = 0 := by
  refine word_ext (stepA_lt h) (by decide) fun k hk => ?_
  rw [stepA_bit h (by decide) hk, show (k + 16) % 16 = k from by omega]
  simp
theorem stepA_zero (s : Nat) : stepA s 0 = 0 := by
  unfold stepA rot
  simp
/-- j times one step -/
noncomputable def P : Nat → Nat → Nat
  | 0, n => n
  | j + 1, n => stepA 1 (P j n)
theorem P_lt {n : Nat} (h : n < 65536) : ∀ j, P j n < 65536
  | 0 => h
  | j + 1 => stepA_lt (P_lt h j)
theorem P_add {n : Nat} : ∀ i j, P (i + j) n = P i (P j n)
  | 0, j => by rw [Nat.zero_add]; rfl
  | i + 1, j => by rw [show i + 1 + j = (i + j) + 1 from by omega]; show stepA 1 (P (i + j) n) = stepA 1 (P i (P j n)); rw [P_add i j]
theorem P_zero : ∀ j, P j 0 = 0
  | 0 => rfl
  | j + 1 => by show stepA 1 (P j 0) = 0; rw [P_zero j, stepA_zero]
theorem P_2 {n : Nat} (h : n < 65536) : P 2 n = stepA 2 n := stepA_twice h (by decide)
theorem P_4 {n : Nat} (h : n < 65536) : P 4 n = stepA 4 n := by rw [show 4 = 2 + 2 from rfl, P_add, P_2 h, P_2 (stepA_lt h)]; exact stepA_twice h (by decide)
theorem P_8 {n : Nat} (h : n < 65536) : P 8 n = stepA 8 n := by rw [show 8 = 4 + 4 from rfl, P_add, P_4 h, P_4 (stepA_lt h)]; exact stepA_twice h (by decide)
theorem P_16 {n : Nat} (h : n < 65536) : P 16 n = 0 := by rw [show 16 = 8 + 8 from rfl, P_add, P_8 h, P_8 (stepA_lt h), stepA_twice h (by decide)]; exact stepA_16 h
theorem last_word {n : Nat} (h : n < 65536) (h0 : n ≠ 0) (h1 : stepA 1 n = 0) : n = 65535 := by
  have same : ∀ k, k < 16 → n.testBit k = n.testBit ((k + 1) % 16) := by
    intro k hk
    have := stepA_bit h (s := 1) (by decide) hk
    rw [h1, Nat.zero_testBit] at this
    cases ha : n.testBit k <;> cases hb : n.testBit ((k + 1) % 16) <;> rw [ha, hb] at this <;> simp_all
  have all : ∀ k, k < 16 → n.testBit k = n.testBit 0 := by
    intro k
    induction k with
    | zero => intro _; rfl
    | succ k ih =>
      intro hk
      have e := same k (by omega)
      rw [Nat.mod_eq_of_lt (by omega)] at e
      rw [← e]
      exact ih (by omega)
  cases hb : n.testBit 0 with
  | false =>
    exfalso
    refine h0 (word_ext h (by decide) fun k hk => ?_)
    rw [all k hk, hb, Nat.zero_testBit]
  | true =>
    refine word_ext h (by decide) fun k hk => ?_
    rw [all k hk, hb, show (65535 : Nat) = 2 ^ 16 - 1 from rfl, Nat.testBit_two_pow_sub_one]
    simpa using hk
/-- the ring's turn is the word's step -/
theorem bits_get {n k : Nat} (hk : k < 16) : (bits n).getD k 0 = if n.testBit k then 1 else 0 := by
  unfold bits
  rw [List.getD_eq_getElem?_getD, List.getElem?_map]
  have : (rangeKs 0 16)[k]? = some (k : Int) := by simp [rangeKs, hk]
  rw [this]
  simp
theorem led_bits {n : Nat} {span : Int} (h : n < 65536) (h0 : 0 ≤ span) (h1 : span ≤ 15) : ledOf (bits n) span = bits (stepA span.toNat n) := by
  unfold ledOf
  show _ = (rangeKs 0 16).map fun k => if (stepA span.toNat n).testBit k.toNat then 1 else 0
  refine List.map_congr_left fun k hk => ?_
  obtain ⟨a, b⟩ := mem_rangeKs hk
  have hk16 : k.toNat < 16 := by omega
  have e : ((k + span).fmod 16).toNat = (k.toNat + span.toNat) % 16 := by
    rw [Int.fmod_eq_emod_of_nonneg _ (by decide)]
    omega
  rw [e, bits_get hk16, bits_get (Nat.mod_lt _ (by decide)), stepA_bit h (by omega) hk16]
  cases n.testBit k.toNat <;> cases n.testBit ((k.toNat + span.toNat) % 16) <;> rfl
end Mine
end
section
open PySem.W in
example : True := by
  w_top off
  trivial
open PySem PySem.W PyProof.Rows PySem.Calls
set_option maxRecDepth 100000
set_option maxHeartbeats 16000000
namespace Mine
theorem fold_sum {c : Int → Prop} [DecidablePred c] {f : Int → Int} : ∀ (l a : List Int), (l.foldl (fun l' k' => if c k' then l' ++ [f k'] else l') a).sum = a.sum + (l.map fun k => if c k then f k else 0).sum
  | [], a => by simp
  | k :: r, a => by
    rw [List.foldl_cons, fold_sum r, List.map_cons, List.sum_cons]
    by_cases h : c k
    · rw [if_pos h, if_pos h, List.sum_append, List.sum_cons, List.sum_nil]; omega
    · rw [if_neg h, if_neg h]; omega
theorem bit_sum (n : Nat) : ∀ m : Nat, ((List.range m).map fun k : Nat => if n.testBit k then (2 : Int) ^ k else 0).sum = ((n % 2 ^ m : Nat) : Int)
  | 0 => by rw [Nat.pow_zero, Nat.mod_one]; rfl
  | m + 1 => by
    rw [List.range_succ, List.map_append, List.sum_append, bit_sum n m, Nat.pow_succ, Nat.mod_mul]
    simp only [List.map_cons, List.map_nil, List.sum_cons, List.sum_nil, Nat.testBit_eq_decide_div_mod_eq]
    have h2 : n / 2 ^ m % 2 = 0 ∨ n / 2 ^ m % 2 = 1 := by omega
    rcases h2 with e | e <;> rw [e]
    · simp
    · simp
theorem num_bits {n : Nat} (h : n < 65536) : numOf (bits n) = n := by
  unfold numOf
  rw [fold_sum, List.sum_nil, Int.zero_add]
  have e : (rangeKs 0 (16 - 0 : Int).toNat).map (fun k => if (bits n).getD k.toNat 0 = 1 then (2 : Int) ^ k.toNat else 0) = (List.range 16).map fun k : Nat => if n.testBit k then (2 : Int) ^ k else 0 := by
    show ((List.range 16).map fun k : Nat => (0 : Int) + (k : Int)).map _ = _
    rw [List.map_map]
    refine List.map_congr_left fun k hk => ?_
    have hk16 : k < 16 := List.mem_range.1 hk
    show (if (bits n).getD ((0 : Int) + (k : Int)).toNat 0 = 1 then (2 : Int) ^ ((0 : Int) + (k : Int)).toNat else 0) = _
    rw [show ((0 : Int) + (k : Int)).toNat = k from by omega, bits_get hk16]
    cases n.testBit k <;> rfl
  rw [e, bit_sum n 16, Nat.mod_eq_of_lt (show n < 2 ^ 16 from h)]
theorem digs_at : ∀ (f n : Nat), n < 16 ^ f → ∀ j, (j < (digs f n).length ↔ n / 16 ^ j ≠ 0) ∧ (j < (digs f n).length → (digs f n)[(digs f n).length - 1 - j]? = some (65 + n / 16 ^ j % 16).toUInt8)
  | 0, n, h, j => by
    have : n = 0 := by simpa using h
    subst this
    simp [digs]
  | f + 1, n, h, j => by
    unfold digs
    by_cases h0 : n = 0
    · subst h0
      simp
    · rw [if_neg h0]
      have ih := digs_at f (n / 16) (by rw [Nat.pow_succ] at h; omega)
      cases j with
      | zero =>
        simp
        omega
      | succ j =>
        obtain ⟨i1, i2⟩ := ih j
        have e : n / 16 ^ (j + 1) = n / 16 / 16 ^ j := by rw [Nat.pow_succ, Nat.mul_comm, Nat.div_div_eq_div_mul]
        rw [e]
        refine ⟨?_, fun hj => ?_⟩
        · rw [List.length_append, List.length_singleton, ← i1]
          omega
        · rw [List.length_append, List.length_singleton] at hj ⊢
          rw [List.getElem?_append_left (by omega), show (digs f (n / 16)).length + 1 - 1 - (j + 1) = (digs f (n / 16)).length - 1 - j from by omega]
          exact i2 (by omega)
theorem lamp_bit {n : Nat} (h : n < 65536) {k : Int} (h0 : 0 ≤ k) (h1 : k < 16) : lamp (apB n) k = if n.testBit k.toNat then 1 else 0 := by
  obtain ⟨m, rfl⟩ := Int.eq_ofNat_of_zero_le h0
  have hm : m < 16 := by omega
  obtain ⟨i1, i2⟩ := digs_at 4 n (by simpa using h) (m / 4)
  have hsz : (apB n).size = (digs 4 n).length := by unfold apB; simp
  have eq : Int.fdiv (m : Int) 4 = ((m / 4 : Nat) : Int) := by rw [Int.fdiv_eq_ediv_of_nonneg _ (by decide)]; omega
  have er : (Int.fmod (m : Int) 4).toNat = m % 4 := by rw [Int.fmod_eq_emod_of_nonneg _ (by decide)]; omega
  have hbit : n.testBit m = decide (n / 16 ^ (m / 4) / 2 ^ (m % 4) % 2 = 1) := by
    rw [Nat.testBit_eq_decide_div_mod_eq]
    congr 2
    rw [Nat.div_div_eq_div_mul, show (16 : Nat) = 2 ^ 4 from rfl, ← Nat.pow_mul, ← Nat.pow_add, show 4 * (m / 4) + m % 4 = m from by omega]
  unfold lamp
  rw [eq, er, hsz, Int.toNat_natCast, hbit]
  by_cases hq : m / 4 < (digs 4 n).length
  · rw [if_pos (by omega)]
    have hb : byteAt (apB n) (-1 - ((m / 4 : Nat) : Int)) = ((65 + n / 16 ^ (m / 4) % 16 : Nat) : Int) := by
      unfold byteAt KBw.bInts
      rw [hsz, show (-1 - ((m / 4 : Nat) : Int) + ((digs 4 n).length : Nat)).toNat = (digs 4 n).length - 1 - m / 4 from by omega]
      rw [show (apB n).toList = digs 4 n from by unfold apB; simp, List.getD_eq_getElem?_getD, List.getElem?_map, i2 hq]
      have hd : n / 16 ^ (m / 4) % 16 < 16 := Nat.mod_lt _ (by decide)
      show (((65 + n / 16 ^ (m / 4) % 16).toUInt8.toNat : Nat) : Int) = _
      congr 1
      show (65 + n / 16 ^ (m / 4) % 16) % 256 = _
      omega
    rw [hb]
    generalize n / 16 ^ (m / 4) = d
    have hr : m % 4 < 4 := Nat.mod_lt _ (by decide)
    have e1 : ((65 + d % 16 : Nat) : Int) - 65 = ((d % 16 : Nat) : Int) := by omega
    rw [e1, Int.fdiv_eq_ediv_of_nonneg _ (by exact Int.pow_nonneg (by decide)), Int.fmod_eq_emod_of_nonneg _ (by decide)]
    generalize m % 4 = r at hr
    have hr4 : r = 0 ∨ r = 1 ∨ r = 2 ∨ r = 3 := by omega
    rcases hr4 with rfl | rfl | rfl | rfl
    · simp only [Nat.pow_zero, Int.pow_zero]
      split <;> simp_all <;> omega
    · simp only [Nat.pow_one, Int.pow_one]
      split <;> simp_all <;> omega
    · have e2 : (2 : Int) ^ 2 = 4 := by decide
      have e3 : (2 : Nat) ^ 2 = 4 := by decide
      rw [e2, e3]
      split <;> simp_all <;> omega
    · have e2 : (2 : Int) ^ 3 = 8 := by decide
      have e3 : (2 : Nat) ^ 3 = 8 := by decide
      rw [e2, e3]
      split <;> simp_all <;> omega
  · rw [if_neg (by omega)]
    have hz : n / 16 ^ (m / 4) = 0 := by
      cases hd : n / 16 ^ (m / 4) with
      | zero => rfl
      | succ d => exact absurd (i1.mpr (by omega)) hq
    rw [hz]
    simp
theorem ring_bits {n : Nat} (h : n < 65536) : ringOf (apB n) = bits n := by
  unfold ringOf bits
  refine List.map_congr_left fun k hk => ?_
  obtain ⟨a, b⟩ := mem_rangeKs hk
  exact lamp_bit h a (by omega)
end Mine
end
section
open PySem.W in
example : True := by
  w_top off
  trivial
open PySem PySem.W PyProof.Rows PySem.Calls
set_option maxRecDepth 100000
set_option maxHeartbeats 16000000
namespace Mine
theorem mod2_bit (x : Nat) : x % 2 = (x.testBit 0).toNat := by
  cases h : x.testBit 0 with
  | false => exact Nat.mod_two_eq_zero_iff_testBit_zero.2 h
  | true => exact Nat.mod_two_eq_one_iff_testBit_zero.2 h
theorem or_split (a b : Nat) : (a ||| b) = (a ^^^ b) + (a &&& b) := by
  induction a using Nat.strongRecOn generalizing b with
  | ind a ih =>
    by_cases h0 : a = 0
    · subst h0; simp
    · have i := ih (a / 2) (by omega) (b / 2)
      have d1 : (a ||| b) / 2 = (a / 2 ||| b / 2) := Nat.eq_of_testBit_eq fun k => by simp [Nat.testBit_div_two]
      have d2 : (a ^^^ b) / 2 = (a / 2 ^^^ b / 2) := Nat.eq_of_testBit_eq fun k => by simp [Nat.testBit_div_two]
      have d3 : (a &&& b) / 2 = (a / 2 &&& b / 2) := Nat.eq_of_testBit_eq fun k => by simp [Nat.testBit_div_two]
      have m1 := mod2_bit (a ||| b)
      have m2 := mod2_bit (a ^^^ b)
      have m3 := mod2_bit (a &&& b)
      rw [Nat.testBit_or] at m1
      rw [Nat.testBit_xor] at m2
      rw [Nat.testBit_and] at m3
      have e : (a.testBit 0 || b.testBit 0).toNat = (a.testBit 0 ^^ b.testBit 0).toNat + (a.testBit 0 && b.testBit 0).toNat := by
        cases a.testBit 0 <;> cases b.testBit 0 <;> rfl
      omega
theorem bitXor_nat (a b : Nat) : Builtin.bitXor (a : Int) (b : Int) = ((a ^^^ b : Nat) : Int) := by
  have h1 : Builtin.bitAnd (a : Int) (b : Int) = ((a &&& b : Nat) : Int) := by
    unfold Builtin.bitAnd
    rw [decide_eq_true (Int.natCast_nonneg a), decide_eq_true (Int.natCast_nonneg b)]
    rfl
  have e : ∀ x : Nat, Builtin.bitNot (Builtin.bitNot (x : Int)) = x := fun x => by unfold Builtin.bitNot; omega
  have h2 : Builtin.bitOr (a : Int) (b : Int) = ((a ||| b : Nat) : Int) := by
    unfold Builtin.bitOr Builtin.bitAnd
    have n : ∀ x : Nat, decide (0 ≤ Builtin.bitNot (x : Int)) = false := fun x => decide_eq_false (by unfold Builtin.bitNot; omega)
    rw [n, n]
    show Builtin.bitNot (Builtin.bitNot _) = _
    rw [e, e a, e b]
    rfl
  unfold Builtin.bitXor
  rw [h1, h2, or_split]
  omega
theorem rot_int (n : Nat) (k : Nat) : Int.fmod (Int.fdiv (65537 * (n : Int)) (2 ^ k)) 65536 = ((rot n k : Nat) : Int) := by
  unfold rot
  rw [Nat.shiftRight_eq_div_pow, Int.fdiv_eq_ediv_of_nonneg _ (Int.pow_nonneg (by decide)), Int.fmod_eq_emod_of_nonneg _ (by decide)]
  have e : (2 : Int) ^ k = ((2 ^ k : Nat) : Int) := (Int.natCast_pow 2 k).symm
  have e2 : 65537 * (n : Int) = ((65537 * n : Nat) : Int) := (Int.natCast_mul 65537 n).symm
  rw [e, e2, ← Int.natCast_ediv]
  exact (Int.natCast_emod _ 65536).symm
section
variable {prog : Program} {w : World} {A : Around} {E : Value → Shared → Prop} {s : Shared} {Q : Value → Shared → Prop}
theorem xor_rot {d n k : Nat} {a : Int} {t u : Tok} (ha : a = (d : Int)) (h : Q (.int ((d ^^^ rot n k : Nat) : Int) s.toks) { s with toks := s.toks + 1 }) :
    wpAny (model prog w) A (binaryOp .BitXor (.int a t) (.int (Int.fmod (Int.fdiv (65537 * (n : Int)) (2 ^ k)) 65536) u)) Q E s := by
  subst ha
  refine xor_int ?_
  rw [rot_int, bitXor_nat]
  exact h
end
/-- the four turns' word -/
theorem due_word {n s1 s2 : Nat} (h : n < 65536) (h1 : s1 ≤ 15) (h2 : s2 ≤ 15) : ((n ^^^ rot n s1) ^^^ rot n s2) ^^^ rot n ((s1 + s2) % 16) = stepA s2 (stepA s1 n) := by
  have m := fun x => Nat.mod_lt x (show 0 < 16 by decide)
  refine word_ext ?_ (stepA_lt (stepA_lt h)) fun k hk => ?_
  · exact Nat.xor_lt_two_pow (n := 16) (Nat.xor_lt_two_pow (n := 16) (Nat.xor_lt_two_pow (n := 16) h (rot_lt _ _)) (rot_lt _ _)) (rot_lt _ _)
  · rw [stepA_bit (stepA_lt h) (by omega) hk, stepA_bit h (by omega) hk, stepA_bit h (by omega) (m _)]
    rw [Nat.testBit_xor, Nat.testBit_xor, Nat.testBit_xor, rot_bit h (by omega) hk, rot_bit h (by omega) hk, rot_bit h (Nat.le_of_lt (m _)) hk]
    rw [show (k + (s1 + s2) % 16) % 16 = ((k + s2) % 16 + s1) % 16 from by omega]
    cases n.testBit k <;> cases n.testBit ((k + s1) % 16) <;> cases n.testBit ((k + s2) % 16) <;> cases n.testBit (((k + s2) % 16 + s1) % 16) <;> rfl
theorem digs_0 : digs 4 0 = [] := rfl
theorem digs_4 {n : Nat} (h : 4096 ≤ n) (h1 : n < 65536) : digs 4 n = [(65 + n / 4096 % 16).toUInt8, (65 + n / 256 % 16).toUInt8, (65 + n / 16 % 16).toUInt8, (65 + n / 1 % 16).toUInt8] := by
  have a : n ≠ 0 := by omega
  have b : n / 16 ≠ 0 := by omega
  have c : n / 16 / 16 ≠ 0 := by omega
  have d : n / 16 / 16 / 16 ≠ 0 := by omega
  simp only [digs, if_neg a, if_neg b, if_neg c, if_neg d, List.nil_append, List.cons_append, Nat.div_one]
  simp only [Nat.div_div_eq_div_mul, Nat.reduceMul]
theorem digs_3 {n : Nat} (h : 256 ≤ n) (h1 : n < 4096) : digs 4 n = [(65 + n / 256 % 16).toUInt8, (65 + n / 16 % 16).toUInt8, (65 + n / 1 % 16).toUInt8] := by
  have a : n ≠ 0 := by omega
  have b : n / 16 ≠ 0 := by omega
  have c : n / 16 / 16 ≠ 0 := by omega
  have d : n / 16 / 16 / 16 = 0 := by omega
  simp only [digs, if_neg a, if_neg b, if_neg c, if_pos d, List.nil_append, List.cons_append, Nat.div_one]
  simp only [Nat.div_div_eq_div_mul, Nat.reduceMul]
theorem digs_2 {n : Nat} (h : 16 ≤ n) (h1 : n < 256) : digs 4 n = [(65 + n / 16 % 16).toUInt8, (65 + n / 1 % 16).toUInt8] := by
  have a : n ≠ 0 := by omega
  have b : n / 16 ≠ 0 := by omega
  have c : n / 16 / 16 = 0 := by omega
  simp only [digs, if_neg a, if_neg b, if_pos c, List.nil_append, List.cons_append, Nat.div_one]
theorem digs_1 {n : Nat} (h : 1 ≤ n) (h1 : n < 16) : digs 4 n = [(65 + n / 1 % 16).toUInt8] := by
  have a : n ≠ 0 := by omega
  have b : n / 16 = 0 := by omega
  simp only [digs, if_neg a, if_pos b, List.nil_append, Nat.div_one]
theorem apB_nil {n : Nat} : apB n = #[] ↔ n = 0 := by
  constructor
  · intro h
    unfold apB digs at h
    by_cases e : n = 0
    · exact e
    · rw [if_neg e] at h; simp at h
  · rintro rfl; rfl
theorem apB_last : apB 65535 = #[80, 80, 80, 80] := by decide
noncomputable def rotI (n : Nat) (t : Int) : Int := Int.fmod (Int.fdiv (65537 * (n : Int)) (2 ^ (t.fmod 16).toNat)) 65536
theorem rotI_nat {n k : Nat} : rotI n (k : Int) = ((rot n (k % 16) : Nat) : Int) := by
  unfold rotI
  rw [show (Int.fmod (k : Int) 16).toNat = k % 16 from by rw [Int.fmod_eq_emod_of_nonneg _ (by decide)]; omega]
  exact rot_int n _
theorem rot_zero {n : Nat} (h : n < 65536) : rot n 0 = n := by
  unfold rot
  show (65537 * n) % 65536 = n
  omega
theorem due_all {n w1 w2 : Nat} {c1 c2 s1 s2 : Int} (h : n < 65536) (a1 : 0 ≤ c1) (b1 : c1 < 15) (a2 : 0 ≤ c2) (b2 : c2 < 15) (e1 : 1 + c1 = s1) (e2 : 1 + c2 = s2) (h1 : stepA (1 + c1).toNat n = w1) (h2 : stepA (1 + c2).toNat w1 = w2) :
    Builtin.bitXor (Builtin.bitXor (Builtin.bitXor (Builtin.bitXor 0 (rotI n 0)) (rotI n (0 + s1))) (rotI n (0 + s2))) (rotI n (0 + s1 + s2)) = (w2 : Int) := by
  obtain ⟨k1, rfl⟩ := Int.eq_ofNat_of_zero_le (show 0 ≤ s1 by omega)
  obtain ⟨k2, rfl⟩ := Int.eq_ofNat_of_zero_le (show 0 ≤ s2 by omega)
  have t1 : (1 + c1).toNat = k1 := by omega
  have t2 : (1 + c2).toNat = k2 := by omega
  rw [t1] at h1
  rw [t2] at h2
  have r0 : rotI n 0 = ((n : Nat) : Int) := by
    have := rotI_nat (n := n) (k := 0)
    rw [show (0 : Nat) % 16 = 0 from rfl, rot_zero h] at this
    exact this
  have r1 : rotI n (0 + (k1 : Int)) = ((rot n k1 : Nat) : Int) := by rw [Int.zero_add, rotI_nat, Nat.mod_eq_of_lt (by omega)]
  have r2 : rotI n (0 + (k2 : Int)) = ((rot n k2 : Nat) : Int) := by rw [Int.zero_add, rotI_nat, Nat.mod_eq_of_lt (by omega)]
  have r3 : rotI n (0 + (k1 : Int) + (k2 : Int)) = ((rot n ((k1 + k2) % 16) : Nat) : Int) := by rw [Int.zero_add, ← Int.natCast_add, rotI_nat]
  have x0 : Builtin.bitXor 0 ((n : Nat) : Int) = ((n : Nat) : Int) := by
    have := bitXor_nat 0 n
    rw [Nat.zero_xor] at this
    exact this
  rw [r0, r1, r2, r3, x0, bitXor_nat, bitXor_nat, bitXor_nat, due_word h (by omega) (by omega), h1, h2]
theorem due_cell {o : Obj} {x y : Int} {t : Tok} (d : o.data = .cell (some (.int x t))) (e : x = y) : ∃ t, o.data = .cell (some (.int y t)) := ⟨t, e ▸ d⟩
theorem newsTail {h₀ h : Heap} {L : Addr} {p : Addr × Obj} {news : List (Addr × Obj)} (N : News h₀ L h (p :: news)) : News h₀ L h news := fun q hq => N q (List.mem_cons_of_mem _ hq)
theorem frEq {h₀ h : Heap} {L : Addr} {m m' : Str → Option Value} (F : Fr h₀ L h m) (e : m = m') : Fr h₀ L h m' := e ▸ F
theorem prune1 {h₀ h : Heap} {L : Addr} {a b c d e f g i j k l r q : Option Value} {z1 z2 z3 : Option Value}
    (F : Fr h₀ L h (fun y => if y = Str.ofString "turn" then a else if y = Str.ofString "turn" then z1 else if y = Str.ofString "turn" then z2 else if y = Str.ofString "turn" then z3 else
      if y = Str.ofString "turns" then b else if y = Str.ofString "ring" then c else if y = Str.ofString "cell" then d else if y = Str.ofString "turns" then e else if y = Str.ofString "ring" then f else if y = Str.ofString "cell" then g else if y = Str.ofString "ring" then i else if y = Str.ofString "turns" then j else
      if y = Str.ofString "first" then k else if y = Str.ofString "number" then l else if y = Str.ofString "cells" then r else if y = Str.ofString "script" then q else none)) :
    Fr h₀ L h (fun y => if y = Str.ofString "ring" then c else if y = Str.ofString "first" then k else if y = Str.ofString "number" then l else if y = Str.ofString "cells" then r else if y = Str.ofString "turn" then a else if y = Str.ofString "turns" then b else if y = Str.ofString "cell" then d else if y = Str.ofString "script" then q else none) := by
  refine frEq F (funext fun y => ?_)
  by_cases h1 : y = Str.ofString "turn"
  · subst h1; rfl
  by_cases h2 : y = Str.ofString "turns"
  · subst h2; rfl
  by_cases h3 : y = Str.ofString "ring"
  · subst h3; rfl
  by_cases h4 : y = Str.ofString "cell"
  · subst h4; rfl
  by_cases h5 : y = Str.ofString "first"
  · subst h5; rfl
  by_cases h6 : y = Str.ofString "number"
  · subst h6; rfl
  by_cases h7 : y = Str.ofString "cells"
  · subst h7; rfl
  by_cases h8 : y = Str.ofString "script"
  · subst h8; rfl
  simp only [if_neg h1, if_neg h2, if_neg h3, if_neg h4, if_neg h5, if_neg h6, if_neg h7, if_neg h8]
end Mine
end
section
open PySem.W in
example : True := by
  w_top off
  trivial
open PySem PySem.W PyProof.Rows PySem.Calls PyProof.Rows.LCg
set_option maxRecDepth 100000
set_option maxHeartbeats 16000000
namespace Mine
/-- the powers of sixteen up to a number -/
noncomputable def powsOf (w : Nat) : List Int := ((rangeInts 3 (-1) (3 - -1).toNat).filter fun a => decide ((16 : Int) ^ a.toNat ≤ (w : Int))).map fun a => (16 : Int) ^ a.toNat
theorem pows_range : rangeInts 3 (-1) (3 - -1).toNat = [3, 2, 1, 0] := by decide
theorem pows_pos {w : Nat} {k : Int} (h : k ∈ powsOf w) : 1 ≤ k ∧ k ≤ 4096 := by
  unfold powsOf at h
  rw [pows_range] at h
  obtain ⟨a, ha, rfl⟩ := List.mem_map.mp h
  have := (List.mem_filter.mp ha).1
  simp only [List.mem_cons, List.not_mem_nil, or_false] at this
  rcases this with rfl | rfl | rfl | rfl <;> decide
theorem pows_len (w : Nat) : (powsOf w).length ≤ 4 := by
  unfold powsOf
  rw [List.length_map, pows_range]
  exact List.length_filter_le _ [3, 2, 1, 0]
noncomputable def letterI (w : Nat) (p : Int) : Int := 65 + (Int.fdiv (w : Int) p).fmod 16
theorem letter_in {w : Nat} {p : Int} : 0 ≤ letterI w p ∧ letterI w p < 256 := by
  unfold letterI
  have h1 := Int.fmod_nonneg_of_pos (Int.fdiv (w : Int) p) (b := 16) (by decide)
  have h2 := Int.fmod_lt_of_pos (Int.fdiv (w : Int) p) (b := 16) (by decide)
  omega
theorem letter_nat {w p : Nat} : (letterI w (p : Int)).toNat.toUInt8 = (65 + w / p % 16).toUInt8 := by
  unfold letterI
  have e : (Int.fdiv (w : Int) (p : Int)).fmod 16 = ((w / p % 16 : Nat) : Int) := by
    rw [Int.fdiv_eq_ediv_of_nonneg _ (Int.natCast_nonneg p), Int.fmod_eq_emod_of_nonneg _ (by decide), ← Int.natCast_ediv]
    exact (Int.natCast_emod _ 16).symm
  rw [e]
  congr 1
theorem pows_word {w : Nat} (h : w < 65536) : byteArr ((powsOf w).map (letterI w)) = apB w := by
  have i3 : (16 : Int) ^ (3 : Int).toNat = ((4096 : Nat) : Int) := by decide
  have i2 : (16 : Int) ^ (2 : Int).toNat = ((256 : Nat) : Int) := by decide
  have i1 : (16 : Int) ^ (1 : Int).toNat = ((16 : Nat) : Int) := by decide
  have i0 : (16 : Int) ^ (0 : Int).toNat = ((1 : Nat) : Int) := by decide
  have key : ∀ l : List Int, byteArr l = (l.map fun n => n.toNat.toUInt8).toArray := fun _ => rfl
  rw [key]
  unfold apB powsOf
  rw [pows_range]
  congr 1
  by_cases a3 : 4096 ≤ w
  · have d3 : decide ((16 : Int) ^ (3 : Int).toNat ≤ (w : Int)) = true := decide_eq_true (by rw [i3]; omega)
    have d2 : decide ((16 : Int) ^ (2 : Int).toNat ≤ (w : Int)) = true := decide_eq_true (by rw [i2]; omega)
    have d1 : decide ((16 : Int) ^ (1 : Int).toNat ≤ (w : Int)) = true := decide_eq_true (by rw [i1]; omega)
    have d0 : decide ((16 : Int) ^ (0 : Int).toNat ≤ (w : Int)) = true := decide_eq_true (by rw [i0]; omega)
    rw [digs_4 a3 h]
    simp only [List.filter_cons, List.filter_nil, d3, d2, d1, d0, if_true, List.map_cons, List.map_nil]
    rw [i3, i2, i1, i0, letter_nat, letter_nat, letter_nat, letter_nat]
  have d3 : decide ((16 : Int) ^ (3 : Int).toNat ≤ (w : Int)) = false := decide_eq_false (by rw [i3]; omega)
  by_cases a2 : 256 ≤ w
  · have d2 : decide ((16 : Int) ^ (2 : Int).toNat ≤ (w : Int)) = true := decide_eq_true (by rw [i2]; omega)
    have d1 : decide ((16 : Int) ^ (1 : Int).toNat ≤ (w : Int)) = true := decide_eq_true (by rw [i1]; omega)
    have d0 : decide ((16 : Int) ^ (0 : Int).toNat ≤ (w : Int)) = true := decide_eq_true (by rw [i0]; omega)
    rw [digs_3 a2 (by omega)]
    simp only [List.filter_cons, List.filter_nil, d3, d2, d1, d0, if_true, Bool.false_eq_true, if_false, List.map_cons, List.map_nil]
    rw [i2, i1, i0, letter_nat, letter_nat, letter_nat]
  have d2 : decide ((16 : Int) ^ (2 : Int).toNat ≤ (w : Int)) = false := decide_eq_false (by rw [i2]; omega)
  by_cases a1 : 16 ≤ w
  · have d1 : decide ((16 : Int) ^ (1 : Int).toNat ≤ (w : Int)) = true := decide_eq_true (by rw [i1]; omega)
    have d0 : decide ((16 : Int) ^ (0 : Int).toNat ≤ (w : Int)) = true := decide_eq_true (by rw [i0]; omega)
    rw [digs_2 a1 (by omega)]
    simp only [List.filter_cons, List.filter_nil, d3, d2, d1, d0, if_true, Bool.false_eq_true, if_false, List.map_cons, List.map_nil]
    rw [i1, i0, letter_nat, letter_nat]
  have d1 : decide ((16 : Int) ^ (1 : Int).toNat ≤ (w : Int)) = false := decide_eq_false (by rw [i1]; omega)
  by_cases a0 : 1 ≤ w
  · have d0 : decide ((16 : Int) ^ (0 : Int).toNat ≤ (w : Int)) = true := decide_eq_true (by rw [i0]; omega)
    rw [digs_1 a0 (by omega)]
    simp only [List.filter_cons, List.filter_nil, d3, d2, d1, d0, if_true, Bool.false_eq_true, if_false, List.map_cons, List.map_nil]
    rw [i0, letter_nat]
  have d0 : decide ((16 : Int) ^ (0 : Int).toNat ≤ (w : Int)) = false := decide_eq_false (by rw [i0]; omega)
  have e : w = 0 := by omega
  simp only [List.filter_cons, List.filter_nil, d3, d2, d1, d0, Bool.false_eq_true, if_false, List.map_nil]
  rw [e]
  rfl
theorem ints_at : ∀ {vs : List Value} {ks : List Int}, IntsAre vs ks → ∀ (i : Nat) (v : Value), vs[i]? = some v → ∃ k, ks[i]? = some k ∧ MIs k v
  | _, _, .nil, i, v, h => by simp at h
  | _, _, .cons y t r, 0, v, h => by simp at h; exact ⟨y, rfl, t, h.symm⟩
  | _, _, .cons y t r, i + 1, v, h => by
    simp at h
    obtain ⟨k, hk, e⟩ := ints_at r i v h
    exact ⟨k, by simpa using hk, e⟩
section
variable {prog : Program} {w : World} {A : Around} {h₀ : Heap} {L : Addr} {m : Str → Option Value} {env : Env} {elt : PySem.Expr} {x : Str} {scope : Scope} {cl : List (Str × Addr)} {s : Shared} {S : List (Addr × Obj) → Prop} {Fin : List Value → List (Addr × Obj) → Prop} {news : List (Addr × Obj)}
theorem mc_list_int {vs : List Value} {ks : List Int} (g : Int → Int) (hi : IntsAre vs ks)
    (turn : ∀ k t I oI C oC D m₂ ys h tk (E' : Value → Shared → Prop), k ∈ ks → LCg.NsObj oC m₂ → m₂ x = some (.int k t) → Fr h₀ L h m → News h₀ L h ((I, oI) :: (C, oC) :: (D, LCg.lst ys) :: news) → LCg.Off3 I C D news → ((@Ne Nat I C) ∧ (@Ne Nat I D) ∧ (@Ne Nat C D)) →
      wpAny (model prog w) A (eval elt (compEnvC scope cl C env)) (LCg.CompEnd h₀ L m { s with heap := h, toks := tk } I oI C oC D (LCg.lst ys) S (fun y news' => MEl news (MIs (g k)) y news')) E' { s with heap := h, toks := tk })
    (fin : ∀ ys, IntsAre ys (ks.map g) → Fin ys news) : LCg.CompRest prog w A h₀ L m env elt x scope cl s S (fun i v => vs.toArray[i]? = some v) Fin vs.toArray.size 0 [] news :=
  mc_rest (All := IntsAre) MIs MIs g .nil (fun _ _ _ _ h ⟨t, e⟩ => e ▸ ints_snoc h) (by rw [← hi.length]; simp) (fun i v _ hv => ints_at hi i v (by simpa using hv)) (fun k v I oI C oC D m₂ ys h tk E' hk ⟨t, e⟩ => by subst e; exact turn k t I oI C oC D m₂ ys h tk E' hk) fin
end
end Mine
end
section
open PySem.W in
example : True := by
  w_top off
  trivial
open PySem PySem.W PyProof.Rows PySem.Calls PyProof.Rows.LCg
set_option maxRecDepth 100000
set_option maxHeartbeats 16000000
namespace Mine
/-- one of the four spans -/
noncomputable def Sp (k : Nat) : Prop := k = 8 ∨ k = 4 ∨ k = 2 ∨ k = 1
theorem Sp.bounds {k : Nat} (h : Sp k) : 1 ≤ k ∧ k ≤ 8 := by unfold Sp at h; omega
theorem Sp.step {k n : Nat} (h : Sp k) (hn : n < 65536) : stepA k n = P k n := by
  rcases h with rfl | rfl | rfl | rfl
  · exact (P_8 hn).symm
  · exact (P_4 hn).symm
  · exact (P_2 hn).symm
  · rfl
section
variable {prog : Program} {w : World} {A : Around} {E : Value → Shared → Prop} {h₀ : Heap} {env : Env} {target : PySem.Expr} {body : List Stmt} {Q : Flow → Shared → Prop} {s : Shared} {ws : List (Addr × String)} {keep : List (Addr × Obj)}
theorem items_chain {m : Str → Option Value} {news : List (Addr × Obj)} (Inv : Nat → (Str → Option Value) → List (Addr × Obj) → Prop) {t8 t4 t2 t1 : Tok} (h0 : Inv 16 m news)
    (hstep : ∀ (sp : Nat) (t : Tok) r m news, Sp sp → Inv (sp + sp) m news → (∀ m' n', Inv sp m' n' → ItemsRest prog w A E h₀ env target body Q s ws keep r m' n') → ItemsRest prog w A E h₀ env target body Q s ws keep (.val (.int (sp : Int) t) :: r) m news)
    (hbase : ∀ m news, Inv 1 m news → ItemsRest prog w A E h₀ env target body Q s ws keep [] m news) :
    ItemsRest prog w A E h₀ env target body Q s ws keep [.val (.int 8 t8), .val (.int 4 t4), .val (.int 2 t2), .val (.int 1 t1)] m news :=
  hstep 8 t8 _ _ _ (.inl rfl) h0 fun _ _ h8 => hstep 4 t4 _ _ _ (.inr (.inl rfl)) h8 fun _ _ h4 => hstep 2 t2 _ _ _ (.inr (.inr (.inl rfl))) h4 fun _ _ h2 => hstep 1 t1 _ _ _ (.inr (.inr (.inr rfl))) h2 fun _ _ h1 => hbase _ _ h1
end
/-- the names in the last loop -/
noncomputable def GM (aK : Addr) (g : Int) (tg : Tok) (n : Nat) (tn : Tok) (aC : Addr) (u : Str → Option Value) : Str → Option Value := fun z =>
  if z = Str.ofString "kept" then some (.ref aK) else if z = Str.ofString "gone" then some (.int g tg) else if z = Str.ofString "number" then some (.int (n : Int) tn) else if z = Str.ofString "cells" then some (.ref aC) else u z
theorem gm_eq {m : Str → Option Value} {aK aC : Addr} {g : Int} {n : Nat} {tg tn : Tok} (hk : m (Str.ofString "kept") = some (.ref aK)) (hg : m (Str.ofString "gone") = some (.int g tg)) (hn : m (Str.ofString "number") = some (.int (n : Int) tn)) (hc : m (Str.ofString "cells") = some (.ref aC)) : m = GM aK g tg n tn aC m := by
  funext z
  unfold GM
  by_cases h1 : z = Str.ofString "kept"
  · rw [if_pos h1, h1, hk]
  rw [if_neg h1]
  by_cases h2 : z = Str.ofString "gone"
  · rw [if_pos h2, h2, hg]
  rw [if_neg h2]
  by_cases h3 : z = Str.ofString "number"
  · rw [if_pos h3, h3, hn]
  rw [if_neg h3]
  by_cases h4 : z = Str.ofString "cells"
  · rw [if_pos h4, h4, hc]
  rw [if_neg h4]
/-- a made list lies apart from the ledger -/
structure OffA (news : List (Addr × Obj)) (a : Addr) : Prop where
  out : ∀ p ∈ news, @Ne Nat p.1 a
theorem OffA.ne1 {news : List (Addr × Obj)} {a b : Addr} {o : Obj} (h : OffA news a) (m : (b, o) ∈ news) : @Ne Nat b a := h.out _ m
theorem OffA.ne2 {news : List (Addr × Obj)} {a b : Addr} {o : Obj} (h : OffA news a) (m : (b, o) ∈ news) : @Ne Nat a b := (h.out _ m).symm
theorem OffA.three {a b c d : Addr} {x y z : Obj} (h1 : @Ne Nat b a) (h2 : @Ne Nat c a) (h3 : @Ne Nat d a) : OffA [(b, x), (c, y), (d, z)] a := ⟨fun p hp => by
  simp only [List.mem_cons, List.not_mem_nil, or_false] at hp
  rcases hp with rfl | rfl | rfl
  · exact h1
  · exact h2
  · exact h3⟩
/-- what holds ahead of a turn of the last loop -/
noncomputable def GI (aC : Addr) (oC : Obj) (sA : Addr) (lp : Addr × Obj) (n : Nat) (tn : Tok) (lim : Nat) (m : Str → Option Value) (news : List (Addr × Obj)) : Prop :=
  ∃ (aK : Addr) (vK : List Value) (nK g : Nat) (gi : Int) (tg : Tok) (u : Str → Option Value) (oS : Obj) (v0 : Option Value), m = GM aK gi tg n tn aC u ∧
    news = [lp, (aK, { cls := .type "list", data := .seq ⟨vK⟩ nK }), (aC, oC), (sA, oS)] ∧ IntsAre vK (bits (P g n)) ∧ gi = (g : Int) ∧ P g n ≠ 0 ∧ P (g + lim) n = 0 ∧ oS.data = .cell v0 ∧ OffA [lp, (aC, oC), (sA, oC)] aK
section
variable {prog : Program} {w : World} {A : Around} {E : Value → Shared → Prop} {s : Shared} {Q : Value → Shared → Prop}
theorem ne_none {q : Nat} {t u : Tok} (h : Q (.bool (decide (q ≠ 0))) s) : wpAny (model prog w) A (compareOp .NotEq (.bytes (apB q) t) (.bytes #[] u)) Q E s := by
  refine ne_bytes ?_
  have e : ((apB q).toList != (#[] : Array UInt8).toList) = decide (q ≠ 0) := by
    by_cases hq : q = 0
    · subst hq; rfl
    · rw [decide_eq_true hq]
      have : apB q ≠ #[] := fun e => hq (apB_nil.mp e)
      have h2 : (apB q).toList ≠ [] := fun e => this (by simpa using e)
      simpa using h2
  rw [e]
  exact h
theorem ne_same {b : Array UInt8} {t u : Tok} (h : Q (.bool false) s) :
    wpAny (model prog w) A (compareOp .NotEq (.bytes b t) (.bytes b u)) Q E s := by
  refine ne_bytes ?_
  rw [show (b.toList != b.toList) = false from by simp]
  exact h
end
section
variable {prog : Program} {w : World} {A : Around} {E : Value → Shared → Prop} {h₀ : Heap} {env : Env} {target : PySem.Expr} {body : List Stmt} {Q : Flow → Shared → Prop} {s : Shared} {ws : List (Addr × String)} {keep : List (Addr × Obj)}
theorem greedy_chain {m : Str → Option Value} {lp : Addr × Obj} {aF aC sA : Addr} {vF : List Value} {nF n : Nat} {oC oS : Obj} {tg tn : Tok} {v0 : Option Value} {t8 t4 t2 t1 : Tok} (hi : IntsAre vF (bits n)) (hn16 : n < 65536) (hn1 : 1 ≤ n) (d : oS.data = .cell v0) (o : OffA [lp, (aC, oC), (sA, oC)] aF)
    (hk : m (Str.ofString "kept") = some (.ref aF)) (hg : m (Str.ofString "gone") = some (.int 0 tg)) (hn : m (Str.ofString "number") = some (.int (n : Int) tn)) (hc : m (Str.ofString "cells") = some (.ref aC))
    (hstep : ∀ (sp : Nat) (t : Tok) r m news, Sp sp → GI aC oC sA lp n tn (sp + sp) m news → (∀ m' n', GI aC oC sA lp n tn sp m' n' → ItemsRest prog w A E h₀ env target body Q s ws keep r m' n') → ItemsRest prog w A E h₀ env target body Q s ws keep (.val (.int (sp : Int) t) :: r) m news)
    (hbase : ∀ m news, GI aC oC sA lp n tn 1 m news → ItemsRest prog w A E h₀ env target body Q s ws keep [] m news) :
    ItemsRest prog w A E h₀ env target body Q s ws keep [.val (.int 8 t8), .val (.int 4 t4), .val (.int 2 t2), .val (.int 1 t1)] m [lp, (aF, { cls := .type "list", data := .seq ⟨vF⟩ nF }), (aC, oC), (sA, oS)] :=
  items_chain (GI aC oC sA lp n tn) ⟨aF, vF, nF, 0, 0, tg, m, oS, v0, gm_eq hk hg hn hc, rfl, hi, rfl, by show n ≠ 0; omega, P_16 hn16, d, o⟩ hstep hbase
end
theorem turn_end {h₀ : Heap} {L : Addr} {s₁ : Shared} {it lp x c d : Addr × Obj} {R : (Str → Option Value) → List (Addr × Obj) → Prop} {h' : Heap} {tk : Nat} {m' : Str → Option Value} {all : List (Addr × Obj)} (F : Fr h₀ L h' m') (N : News h₀ L h' all) (r : R m' [lp, x, c, d])
    (hI : SubL [it] all) (sub : SubL [lp, x, c, d] all) (off : OffW [it] [lp, x, c, d]) : UnrEndW h₀ L s₁ [it] (fun m' n' => SubL [lp] n' ∧ R m' n') { s₁ with heap := h', toks := tk } :=
  UnrEndW.intro F N _ hI sub off ⟨⟨.head _, trivial⟩, r⟩
/-- the last loop: the number, and the rounds done -/
noncomputable def Rw (n g : Nat) (a b : Int) : Prop := ∃ r : Nat, r ≤ g + 1 ∧ a = (P r n : Int) ∧ b = (r : Int)
theorem rw_start {n g : Nat} : Rw n g (n : Int) 0 := ⟨0, Nat.zero_le _, rfl, rfl⟩
theorem rw_step {n g : Nat} {a b : Int} (hn : n < 65536) (hg : P (g + 1) n = 0) (h : Rw n g a b) (h0 : a > 0) :
    Rw n g (Builtin.bitXor a (Int.fmod (Int.fdiv (65537 * a) (2 ^ (1 : Int).toNat)) 65536)) (b + 1) := by
  obtain ⟨r, hr, rfl, rfl⟩ := h
  have hlt := P_lt hn r
  have hne : r ≠ g + 1 := by
    intro e
    rw [e, hg] at h0
    exact absurd h0 (by decide)
  refine ⟨r + 1, by omega, ?_, rfl⟩
  rw [show (1 : Int).toNat = 1 from rfl, rot_int, bitXor_nat]
  rfl
theorem rw_less {n g : Nat} {a b : Int} (hg : P (g + 1) n = 0) (h : Rw n g a b) (h0 : a > 0) : (((g + 1 : Nat) : Int) - (b + 1)).toNat < (((g + 1 : Nat) : Int) - b).toNat := by
  obtain ⟨r, hr, rfl, rfl⟩ := h
  have hne : r ≠ g + 1 := by
    intro e
    rw [e, hg] at h0
    exact absurd h0 (by decide)
  omega
theorem rw_end {n g : Nat} {a b : Int} (h0 : P g n ≠ 0) (h : Rw n g a b) (hx : ¬ a > 0) : b = ((g + 1 : Nat) : Int) := by
  obtain ⟨r, hr, rfl, rfl⟩ := h
  have hz : P r n = 0 := by omega
  have : ¬ r ≤ g := by
    intro hle
    apply h0
    rw [show g = (g - r) + r from by omega, P_add, hz, P_zero]
  omega
theorem eq_rounds {prog : Program} {w : World} {A : Around} {E : Value → Shared → Prop} {s : Shared} {Q : Value → Shared → Prop} {n g : Nat} {a b gi : Int} {t u : Tok} (h0 : P g n ≠ 0) (hg : gi = (g : Int)) (hr : Rw n g a b) (hx : ¬ 0 < a) (h : Q (.bool true) s) :
    wpAny (model prog w) A (compareOp .Eq (.int b t) (.int (gi + 1) u)) Q E s := by
  refine PyProof.Rows.eq_int ?_
  rw [rw_end h0 hr hx, hg, show ((((g + 1 : Nat) : Int)) == (g : Int) + 1) = true from by simp]
  exact h
end Mine
end
section
open PySem.W in
example : True := by
  w_top off
  trivial
open PySem PySem.W PyProof.Rows PySem.Calls
set_option maxRecDepth 100000
set_option maxHeartbeats 16000000
set_option linter.unusedVariables false
namespace Mine
example (w : World) : hd.heap_39 w.params = hd.heap_39 w.params ∧ PySem.Challenge.rw_xc0005_01 = PySem.Challenge.rw_xc0005_01 := by
  k_fill
  exact ⟨rfl, rfl⟩
theorem slice_12 {prog : Program} {w : World} {A : Around} {E : Value → Shared → Prop} {s : Shared} {value slice : PySem.Expr} {h₀ : Heap} {L l : Addr} {m : PySem.Str → Option Value} {news : List (Addr × Obj)} {a b c d : Value} {t u : Tok} {Q : Value → Shared → Prop}
    (F : Fr h₀ L s.heap m) (N : News h₀ L s.heap news) (hl : s.heap.IsList l #[a, b, c, d])
    (h : ∀ D h', Fr h₀ L h' m → News h₀ L h' ((D, listOf #[b, c] 0) :: news) → (∀ p ∈ news, p.1 < D) → Q (.ref D) { s with heap := h' })
    (hs : subscripted slice false (.ref l) (.ref s.heap.objs.size) = operate [.ref s.heap.objs.size, .ref l] (getItem (.ref l) (.ref s.heap.objs.size)) := by with_unfolding_all rfl)
    (ht : ∀ r, letTemporaryGo value (.ref l) r = pure () := by intro _; with_unfolding_all rfl) :
    wpAny (model prog w) A (subscriptTail value slice (.ref l) (.ref s.heap.objs.size)) Q E { s with heap := s.heap.push { cls := .type "slice", data := .fields #[.int 1 t, .int 3 u, .none] } } := by
  refine slice_list F N hl (.int _ t) (.int _ u) (fun h' F' N' => ?_) hs ht (by show (4 : Nat) ≤ _; decide)
  have e : slicePick #[a, b, c, d] (some 1) (some 3) none = #[b, c] := by
    have := slicePick_run #[a, b, c, d] 1 3 (by simp) (by decide)
    simpa using this
  rw [e] at N'
  exact h (s.heap.objs.size + 1) h' F' N' (fun p hp => Nat.lt_succ_of_lt (Heap.lt_size (N p hp).1))
theorem addsN {h₀ h h' : Heap} {L a : Addr} {o : Obj} {m : Str → Option Value} {news : List (Addr × Obj)} (F : Fr h₀ L h m) (N : News h₀ L h news) (st : h.StaysIn h') (hn : h.get? a = none) (ha : h'.get? a = some o) :
    News h₀ L h' ((a, o) :: news) ∧ OffA news a := ⟨(addsNews F N st hn ha).1, ⟨(addsNews F N st hn ha).2⟩⟩
theorem keep_six {h₀ h : Heap} {L : Addr} {p0 p1 p2 p3 p4 p5 p6 p7 p8 p9 p10 p11 p12 p13 p14 p15 : Addr × Obj} (N : News h₀ L h [p0, p1, p2, p3, p4, p5, p6, p7, p8, p9, p10, p11, p12, p13, p14, p15]) : News h₀ L h [p0, p3, p11, p13, p14, p15] := by
  intro p hp
  refine N p ?_
  simp only [List.mem_cons, List.not_mem_nil, or_false] at hp ⊢
  rcases hp with rfl | rfl | rfl | rfl | rfl | rfl <;> simp
theorem pick_abs {num c : Int} : ([num, -num].getD (c.fmod 2).toNat 0).natAbs = num.natAbs := by
  rcases fmod_cases2 c with e | e <;> rw [e]
  · rfl
  · show (-num).natAbs = _
    exact Int.natAbs_neg num
theorem not_empty {prog : Program} {w : World} {A : Around} {E : Value → Shared → Prop} {s : Shared} {a b : Addr} {xs : List Value} {n : Nat} {Q : Value → Shared → Prop} (ha : s.heap.IsList a xs.toArray) (hb : s.heap.IsList b #[]) (hi : IntsAre xs (bits n)) (hu : A.units + 64 < cLine) (h : Q (.bool false) s) :
    wpAny (model prog w) A (compareOp .Eq (.ref a) (.ref b)) Q E s := by
  refine ke_eq_ints (ys := []) ha hb hi .nil hu ?_
  rw [decide_eq_false (fun e => by have := bits_len n; rw [e] at this; cases this)]
  exact h
theorem range_four {a : Int} (h : a ∈ rangeInts 3 (-1) 4) : 0 ≤ a ∧ a ≤ 3 := by
  obtain ⟨i, hi, rfl⟩ := List.mem_map.mp h
  have := List.mem_range.mp hi
  omega
theorem gnOwn {h₀ h : Heap} {L D : Addr} {m : Str → Option Value} {news : List (Addr × Obj)} {items : Array Value} (P : NewPlain h news D items) (F : Fr h₀ L h m) (N : News h₀ L h news) (hn : h₀.get? D = none) :
    ∃ n, News h₀ L h ((D, listOf items n) :: news) ∧ OffA news D := by
  obtain ⟨n, e⟩ := P.1
  refine ⟨n, fun p hp => ?_, ⟨P.2⟩⟩
  rcases List.mem_cons.mp hp with rfl | hp
  · exact ⟨e, P.ne_locals F, hn⟩
  · exact N p hp
theorem keep_D {h₀ h : Heap} {L : Addr} {p1 p2 p3 p4 p5 p6 p7 p8 : Addr × Obj} (N : News h₀ L h [p1, p2, p3, p4, p5, p6, p7, p8]) : News h₀ L h [p5, p6, p8] := by
  intro p hp
  refine N p ?_
  simp only [List.mem_cons, List.not_mem_nil, or_false] at hp ⊢
  rcases hp with rfl | rfl | rfl <;> simp

local macro_rules | `(tactic| walk_at "call ref") => `(tactic| refine Halt.out ?_)
local macro_rules | `(tactic| walk_at "subscriptTail") => `(tactic| ((with_reducible show wpAny _ _ (subscriptTail (PySem.Expr.List _ _) _ (Value.ref _) (Value.int _ _)) _ _ _); refine Halt.out ?_))
local macro_rules | `(tactic| walk_at "subscriptTail Name Slice ref ref") => `(tactic| refine Halt.out ?_)
local macro_rules | `(tactic| k_ne) => `(tactic| (refine neN ?_; first | exact OffA.ne1 (by with_reducible assumption) (by k_mem) | exact OffA.ne2 (by with_reducible assumption) (by k_mem)))
local macro_rules | `(tactic| walk_at "compareOp Eq ref ref") => `(tactic| refine Halt.out ?_)
local macro_rules | `(tactic| walk_at "binaryOp Pow int") => `(tactic| ((rename ItemKind.is _ _ _ => hI9); (obtain ⟨t9, e9⟩ := ItemKind.int_is hI9); subst e9; (rename _ ∈ rangeInts 3 (-1) 4 => hR9); (with_reducible refine pow_int_small (range_four hR9).1 (Int.le_trans (range_four hR9).2 (by decide)) (by decide) ?_)))
local macro_rules | `(tactic| walk_at "binaryOp Pow int int") => `(tactic| ((rename _ ∈ rangeInts 3 (-1) 4 => hR9); (with_reducible refine pow_int_small (range_four hR9).1 (Int.le_trans (range_four hR9).2 (by decide)) (by decide) ?_)))
local macro_rules | `(tactic| walk_at "call type:bytes") => `(tactic| refine Halt.out ?_)
local macro_rules | `(tactic| walk_at "compareOp NotEq bytes bytes") => `(tactic| refine Halt.out ?_)
local macro_rules | `(tactic| walk_at "exec Assign") => `(tactic| k_extra "exec Assign")
local macro_rules | `(tactic| walk_at "exec For") => `(tactic| k_extra "exec For")
local macro_rules | `(tactic| walk_at "exec If") => `(tactic| k_extra "exec If")
local macro_rules | `(tactic| walk_at "exec Assign cons ListComp") => `(tactic| k_extra "exec Assign cons ListComp")
local macro_rules | `(tactic| walk_at "ItemsRest") => `(tactic| k_extra "ItemsRest")
local macro_rules | `(tactic| walk_at "eval ListComp") => `(tactic| k_extra "eval ListComp")
local macro_rules | `(tactic| walk_at "CompSrc") => `(tactic| k_extra "CompSrc")
local macro_rules | `(tactic| walk_at "CompEnd") => `(tactic| k_extra "CompEnd")
local macro_rules | `(tactic| walk_at "UnrEndW") => `(tactic| k_extra "UnrEndW")
local macro_rules | `(tactic| walk_at "compareOp Eq int int") => `(tactic| k_extra "compareOp Eq int int")
local macro_rules | `(tactic| walk_at "binaryOp RShift int int") => `(tactic| k_extra "binaryOp RShift int int")
local macro_rules | `(tactic| walk_at "binaryOp Mod int int") => `(tactic| k_extra "binaryOp Mod int int")
local macro_rules | `(tactic| walk_at "Keeps") => `(tactic| k_extra "Keeps")
local macro_rules | `(tactic| walk_at "Carried") => `(tactic| k_extra "Carried")
theorem law_holds : PySem.Challenge.rw_xc0005_01.Holds := hd (by
  k_go0; (all_goals try k_fold); k_with_none
  k_with "exec Assign" => ((with_reducible show wpAny _ _ (exec (PySem.Stmt.Assign [PySem.Expr.Name (PySem.Str.ofString "due") _] (PySem.Expr.Constant _ _ _) _) _) _ _ _); refine Halt.out ?_)
  k_with "exec For" => (k_here; (rename Fr _ _ _ _ => lF'); (with_unfolding_all refine' For_turns lF' ?_))
  k_with "ItemsRest" => ((with_unfolding_all refine ItemsRest.zero (fun h' tk' F' N' => ?_)); (try dsimp only); (try dsimp only at F'))
  k_steps
  (rename Frag.In _ _ => X0)
  (rename Top _ _ _ _ _ _ => T0)
  (rename Below _ _ _ _ => B0)
  (rename IntsAre _ _ => hI0)
  (rename Heap.IsList _ _ _ => hL0)
  (rename CellsAre _ _ _ => hX0)
  clear hX0
  (rename Obj.data _ = _ => dSpan)
  change Obj.data _ = Data.cell none at dSpan
  (rename Obj.data _ = _ => dDue)
  change Obj.data _ = Data.cell none at dDue
  (rename Fr _ _ _ _ => F0)
  (rename News _ _ _ _ => N0)
  (rename ¬ ((63 : Nat) : Int) < _ => h63)
  change Fr _ _ _ (fun z => if z = Str.ofString "script" then some (Value.ref _) else none) at F0
  refine Halt.mk ?_
  refine c_cells (sit_of (dp := callerA.depth + 1) (un := callerA.units + 3) B0 F0 X0 T0 rfl rfl (by decide) (by decide)) (F0.lst hL0) hI0 (by omega) ⟨?_⟩
  intro aC vC nC c₀ c₁ c₂ c₃ h5 k5 st5 hn5 ha5 hi5
  obtain ⟨N1, o1⟩ := addsN F0 N0 st5 hn5 ha5
  replace F0 := keepsFr F0 st5
  clear N0 st5 hn5 ha5
  obtain ⟨vC⟩ := vC
  change IntsAre vC [c₀, c₁, c₂, c₃] at hi5
  rcases hi5 with _ | ⟨_, tc0, hi5⟩
  rcases hi5 with _ | ⟨_, tc1, hi5⟩
  rcases hi5 with _ | ⟨_, tc2, hi5⟩
  rcases hi5 with _ | ⟨_, tc3, hi5⟩
  cases hi5
  try dsimp only
  k_steps
  refine Halt.mk ?_
  (rename Fr _ _ _ _ => F2)
  (rename News _ _ _ _ => N2)
  generalize hNum : 1 + ([c₀, c₁, c₂, c₃].getD (Int.toNat 0) 0).fmod 65535 = num at F2 N2
  have hlo : 1 ≤ num := by have := Int.fmod_nonneg_of_pos ([c₀, c₁, c₂, c₃].getD (Int.toNat 0) 0) (b := 65535) (by decide); omega
  have hhi : num ≤ 65535 := by have := Int.fmod_lt_of_pos ([c₀, c₁, c₂, c₃].getD (Int.toNat 0) 0) (b := 65535) (by decide); omega
  clear hNum
  obtain ⟨n, rfl⟩ := Int.eq_ofNat_of_zero_le (show 0 ≤ num by omega)
  have hn16 : n < 65536 := by omega
  have hn1 : 1 ≤ n := by omega
  have hf0 := Int.fmod_nonneg_of_pos ([c₀, c₁, c₂, c₃].getD (Int.toNat 3) 0) (b := 2) (by decide)
  have hf1 := Int.fmod_lt_of_pos ([c₀, c₁, c₂, c₃].getD (Int.toNat 3) 0) (b := 2) (by decide)
  refine item_list_intsR (N2.isList (by k_mem)) (IntsAre.cons _ _ (.cons _ _ .nil)) hf0 hf1 (by omega) ?_
  intro t5
  try dsimp only
  k_steps
  refine Halt.mk ?_
  (rename Fr _ _ _ _ => F2)
  (rename News _ _ _ _ => N2)
  refine c_int2ap (sit_of (dp := callerA.depth + 1) (un := callerA.units + 3) B0 F2 X0 T0 rfl rfl (by decide) (by decide)) (by rw [pick_abs]; omega) ?_
  intro t6 h6 k6 st6
  rw [pick_abs, Int.natAbs_natCast]
  replace F2 := keepsFr F2 st6
  replace N2 := keepsNews N2 st6
  clear st6
  try dsimp only
  k_steps
  refine Halt.mk ?_
  refine c_ring (sit_of (dp := callerA.depth + 1) (un := callerA.units + 3) B0 F2 X0 T0 rfl rfl (by decide) (by decide)) apB_size ⟨?_⟩
  intro aF vF nF h7 k7 st7 hn7 ha7 hi7
  rw [ring_bits hn16] at hi7
  obtain ⟨vF⟩ := vF
  change IntsAre vF (bits n) at hi7
  obtain ⟨N3, o3⟩ := addsN F2 N2 st7 hn7 ha7
  replace F2 := keepsFr F2 st7
  clear N2 st7 hn7 ha7
  try dsimp only
  k_steps
  refine Halt.mk ?_
  (rename Fr _ _ _ _ => F2)
  (rename News _ _ _ _ => N2)
  refine slice_12 (s := ⟨_, _, _, _, _⟩) F2 N2 (N2.isList (by k_mem)) ?_
  clear F2 N2
  intro D1 h8 F2 N2 lt1
  k_lt lt1
  try dsimp only
  k_steps
  refine Halt.mk ?_
  (rename Fr _ _ _ _ => F2)
  (rename News _ _ _ _ => N2)
  have ha1 := Int.fmod_nonneg_of_pos c₁ (b := 15) (by decide)
  have hb1 := Int.fmod_lt_of_pos c₁ (b := 15) (by decide)
  refine c_led (sit_of (dp := callerA.depth + 1) (un := callerA.units + 3) B0 F2 X0 T0 rfl rfl (by decide) (by decide)) (by decide) (by decide) (N2.isList (by k_mem)) hi7 (bits_len n) ⟨bits_01 n⟩ (by omega) (by omega) ⟨?_⟩
  intro aG vG nG h9 k9 st9 hn9 ha9 hi9
  rw [led_bits hn16 (by omega) (by omega)] at hi9
  obtain ⟨vG⟩ := vG
  generalize hw1 : stepA (1 + c₁.fmod 15).toNat n = w1 at hi9
  have hl1 : w1 < 65536 := hw1 ▸ stepA_lt hn16
  change IntsAre vG (bits w1) at hi9
  obtain ⟨N4, o4⟩ := addsN F2 N2 st9 hn9 ha9
  replace F2 := keepsFr F2 st9
  clear N2 st9 hn9 ha9
  try dsimp only
  k_steps
  refine Halt.mk ?_
  (rename News _ _ _ _ => N2)
  refine not_empty (N2.isList (by k_mem)) (N2.isList (by k_mem)) hi9 (by show callerA.units + 3 + 64 < cLine; decide) ?_
  try dsimp only
  k_steps
  refine Halt.mk ?_
  (rename Fr _ _ _ _ => F2)
  (rename News _ _ _ _ => N2)
  have ha2 := Int.fmod_nonneg_of_pos c₂ (b := 15) (by decide)
  have hb2 := Int.fmod_lt_of_pos c₂ (b := 15) (by decide)
  refine c_led (sit_of (dp := callerA.depth + 1) (un := callerA.units + 3) B0 F2 X0 T0 rfl rfl (by decide) (by decide)) (by decide) (by decide) (N2.isList (by k_mem)) hi9 (bits_len w1) ⟨bits_01 w1⟩ (by omega) (by omega) ⟨?_⟩
  intro aH vH nH h10 k10 st10 hn10 ha10 hi10
  rw [led_bits hl1 (by omega) (by omega)] at hi10
  obtain ⟨vH⟩ := vH
  generalize hw2 : stepA (1 + c₂.fmod 15).toNat w1 = w2 at hi10
  have hl2 : w2 < 65536 := hw2 ▸ stepA_lt hl1
  change IntsAre vH (bits w2) at hi10
  obtain ⟨N5, o5⟩ := addsN F2 N2 st10 hn10 ha10
  replace F2 := keepsFr F2 st10
  clear N2 st10 hn10 ha10
  try dsimp only
  k_steps
  refine Halt.mk ?_
  (rename News _ _ _ _ => N2)
  refine not_empty (N2.isList (by k_mem)) (N2.isList (by k_mem)) hi10 (by show callerA.units + 3 + 64 < cLine; decide) ?_
  try dsimp only
  k_steps
  (rename @Ne Nat _ _ ∧ _ => z1)
  clear z1
  (rename @Ne Nat _ _ ∧ _ => z1)
  clear z1
  refine Halt.mk ?_
  (rename News _ _ _ _ => N2)
  replace N2 := keep_six N2
  k_with_none
  k_with "exec Assign cons ListComp" => refine Halt.out ?_
  k_with "binaryOp RShift int int" => ((with_reducible refine rshift_int ?sh ?_); (case sh => first | decide | exact Int.fmod_nonneg_of_pos _ (by decide)))
  k_with "binaryOp Mod int int" => (with_reducible refine mod_int' (by decide) ?_)
  (rename Obj.data _ = _ => dSpan)
  (rename IntsAre _ (_ ++ _) => hT)
  simp only [List.map_cons, List.map_nil, List.cons_append, List.nil_append] at hT
  (rename Fr _ _ _ _ => F2)
  generalize hs1 : 1 + c₁.fmod 15 = s1 at hT
  generalize hs2 : 1 + c₂.fmod 15 = s2 at hT
  rcases hT with _ | ⟨_, tt0, hT⟩
  rcases hT with _ | ⟨_, tt1, hT⟩
  rcases hT with _ | ⟨_, tt2, hT⟩
  rcases hT with _ | ⟨_, tt3, hT⟩
  rcases hT with _ | _
  revert o1; revert o3; revert o5; revert hi7; revert hi10; revert F2; revert N2; revert dSpan; revert dDue
  repeat (rename News _ _ _ _ => z; clear z)
  repeat (rename Fr _ _ _ _ => z; clear z)
  repeat (rename OffA _ _ => z; clear z)
  repeat (rename IntsAre _ _ => z; clear z)
  repeat (rename List.length _ = _ => z; clear z)
  repeat (rename Obj.cls _ = _ => z; clear z)
  intro dDue dSpan N2 F2 hi10 hi7 o5 o3 o1
  k_steps
  (rename Fr _ _ _ _ => F2)
  (rename News _ _ _ _ => N2)
  (rename Obj.data _ = _ => dDue)
  obtain ⟨tDue, dDue⟩ := due_cell dDue (due_all hn16 ha1 hb1 ha2 hb2 hs1 hs2 hw1 hw2)
  obtain ⟨tSpan, dSpan⟩ := due_cell dSpan rfl
  replace N2 := newsTail N2
  replace F2 := prune1 F2
  revert o1; revert o3; revert o5; revert hi7; revert hi10; revert F2; revert N2; revert dSpan; revert dDue
  repeat (rename News _ _ _ _ => z; clear z)
  repeat (rename Fr _ _ _ _ => z; clear z)
  repeat (rename Obj.data _ = _ => z; clear z)
  repeat (rename Obj.cls _ = _ => z; clear z)
  repeat (rename (_ ∧ _) => z; clear z)
  clear hw1 hw2 hs1 hs2 hl1
  intro dDue dSpan N2 F2 hi10 hi7 o5 o3 o1
  k_with_none
  k_with "exec If" => refine Halt.out ?_
  k_with "Keeps" => with_unfolding_all exact ⟨_, _, rfl, fun _ _ e => e⟩
  k_with "Carried" => with_unfolding_all exact Carried.int _ _
  refine Halt.mk ?_
  (apply Assign_ListComp_DCr (pz := fun a => decide ((16 : Int) ^ a.toNat ≤ (w2 : Int))) (d := fun a => PyData.int ((16 : Int) ^ a.toNat)))
  (case hsw => with_unfolding_all rfl)
  (case hL => with_unfolding_all rfl)
  (case hh => with_unfolding_all rfl)
  (case hclos => with_unfolding_all rfl)
  (case hcell => decide)
  (case hkind => with_unfolding_all rfl)
  (case hnames => decide)
  (case hx => with_unfolding_all rfl)
  (case hy => with_unfolding_all rfl)
  (case hp => with_unfolding_all rfl)
  (case hs => intro _; with_unfolding_all rfl)
  refine wpAny_rangePack ?_
  k_steps
  (rename IntsAre _ (List.map _ (List.filter _ _)) => iX)
  change IntsAre _ (powsOf w2) at iX
  (rename News _ _ _ _ => N2)
  (rename Fr _ _ _ _ => F2)
  revert o1; revert o3; revert o5; revert hi7; revert hi10; revert iX; revert F2; revert N2
  repeat (rename News _ _ _ _ => z; clear z)
  repeat (rename Fr _ _ _ _ => z; clear z)
  repeat (rename CarriedAll _ _ => z; clear z)
  repeat (rename Heap.IsList _ _ _ => z; clear z)
  repeat (rename IsRange _ _ _ _ _ _ _ _ => z; clear z)
  repeat (rename IntsAre _ _ => z; clear z)
  intro N2 F2 iX hi10 hi7 o5 o3 o1
  k_with_none
  k_with "exec For" => refine Halt.out ?_
  k_with "eval ListComp" => refine Halt.out ?_
  k_with "CompSrc" => refine Halt.out ?_
  k_with "CompEnd" => refine Halt.out ?_
  refine Halt.mk ?_
  k_steps
  refine Halt.mk ?_
  refine c_number (sit_of (dp := callerA.depth + 1) (un := callerA.units + 3) B0 F2 X0 T0 rfl rfl (by decide) (by decide)) (N2.isList (by k_mem)) hi10 (bits_len w2) ⟨?_⟩
  intro t11 h11 k11 st11
  rw [num_bits hl2]
  replace F2 := keepsFr F2 st11
  replace N2 := keepsNews N2 st11
  clear st11
  try dsimp only
  k_steps
  refine Halt.mk ?_
  refine c_int2ap (sit_of (dp := callerA.depth + 1) (un := callerA.units + 3) B0 F2 X0 T0 rfl rfl (by decide) (by decide)) (by rw [Int.natAbs_neg]; omega) ?_
  intro t12 h12 k12 st12
  rw [Int.natAbs_neg, Int.natAbs_natCast]
  replace F2 := keepsFr F2 st12
  replace N2 := keepsNews N2 st12
  clear st12
  try dsimp only
  k_steps
  refine Halt.mk ?_
  k_dflt (refine LCg.ListComp_U (F₀ := by k_asm) (by with_unfolding_all rfl) (by decide) (by rfl) (by decide) (by rfl) ?_)
  k_steps
  refine Halt.mk ?_
  k_dflt (refine LCg.CompSrc.ledger (by rfl) (by k_asm) (by k_asm) (by k_mem) (by rw [List.size_toArray, iX.length]; exact Nat.le_trans (pows_len w2) (by decide)) ?_)
  intro g'
  refine mc_list_int (letterI w2) iX (fun k' t' I' oI' C' oC' D' m' ys' h' tk' E' hk' hC' hx' F' N' off' ne' => ?_) (fun ys13 hS13 => ?_)
  · have off9 := off'
    have hkp := pows_pos hk'
    simp only [LCg.Off3, and_true] at off'
    k_steps
    refine Halt.mk ?_
    exact LCg.CompEnd.intro F' N' _ (fun _ hp => hp) off9 (.inr ⟨_, by k_mem, rfl, _, rfl⟩) ⟨rfl, _, rfl⟩
  k_steps
  refine Halt.mk ?_
  (rename Fr _ _ _ _ => F2)
  (rename News _ _ _ _ => N2)
  refine KBa.make_K F2 N2 rfl (N2.isList (by k_mem)) hS13 (fun c hc => ?_) (by rw [List.length_map]; exact Nat.le_trans (pows_len w2) (by decide)) ?_
  · obtain ⟨p, _, rfl⟩ := List.mem_map.mp hc
    exact letter_in
  clear F2 N2
  intro h13 t13 k13 F2 N2 _
  rw [pows_word hl2]
  try dsimp only
  k_steps
  refine Halt.mk ?_
  refine ne_same ?_
  clear hS13
  try dsimp only
  k_steps
  (rename Fr _ _ _ _ => F2)
  (rename News _ _ _ _ => N2)
  replace N2 := keep_D N2
  revert o1; revert o3; revert hi7; revert F2; revert N2; revert dSpan
  repeat (rename News _ _ _ _ => z; clear z)
  repeat (rename Fr _ _ _ _ => z; clear z)
  repeat (rename Heap.IsList _ _ _ => z; clear z)
  repeat (rename IntsAre _ _ => z; clear z)
  repeat (rename OffA _ _ => z; clear z)
  repeat (rename Obj.data _ = _ => z; clear z)
  repeat (rename @Ne Nat _ _ ∧ _ => z; clear z)
  repeat (rename KBa.In _ => z; clear z)
  intro dSpan N2 F2 hi7 o3 o1
  k_with_none
  k_with "ItemsRest" => refine Halt.out ?_
  k_with "UnrEndW" => refine Halt.out ?_
  refine Halt.mk ?_
  (with_unfolding_all refine' For_turns F2 ?_)
  k_steps
  refine Halt.mk ?_
  (with_unfolding_all refine greedy_chain hi7 hn16 hn1 dSpan (OffA.three ?_ (o3.ne1 (by k_mem)) (o3.ne1 (by k_mem))) rfl rfl rfl rfl ?_ ?_)
  · show @Ne Nat _ _
    omega
  · intro sp tsp r m5 n5 hsp hI ih
    obtain ⟨aK, vK, nK, g, gi, tg, u, oS, v0, hm5, hn5, hiK, hgi, hP0, hP1, dS, oK⟩ := hI
    subst hm5 hn5
    have hspb := hsp.bounds
    have hkl := P_lt hn16 g
    (with_unfolding_all refine ItemsRest.val (fun h' tk' F' => ?_))
    ktu_objs
    unfold GM at F'
    k_steps
    refine Halt.mk ?_
    (rename Fr _ _ _ _ => F2)
    (rename News _ _ _ _ => N2)
    refine c_led (sit_of (dp := callerA.depth + 1) (un := callerA.units + 3) B0 F2 X0 T0 rfl rfl (by decide) (by decide)) (by decide) (by decide) (N2.isList (by k_mem)) hiK (bits_len _) ⟨bits_01 _⟩ (by omega) (by omega) ⟨?_⟩
    intro aR vR nR h9 k9 st9 hn9 ha9 hi9
    rw [led_bits hkl (by omega) (by omega), Int.toNat_natCast, hsp.step hkl, ← P_add] at hi9
    obtain ⟨vR⟩ := vR
    change IntsAre vR (bits (P (sp + g) n)) at hi9
    have hql := P_lt hn16 (sp + g)
    obtain ⟨N4, o4⟩ := addsN F2 N2 st9 hn9 ha9
    replace F2 := keepsFr F2 st9
    clear N2 st9 hn9 ha9
    try dsimp only
    k_steps
    refine Halt.mk ?_
    (rename News _ _ _ _ => N2)
    refine not_empty (N2.isList (by k_mem)) (N2.isList (by k_mem)) hi9 (by show callerA.units + 3 + 64 < cLine; decide) ?_
    try dsimp only
    k_steps
    refine Halt.mk ?_
    (rename Fr _ _ _ _ => F2)
    (rename News _ _ _ _ => N2)
    refine c_number (sit_of (dp := callerA.depth + 1) (un := callerA.units + 3) B0 F2 X0 T0 rfl rfl (by decide) (by decide)) (N2.isList (by k_mem)) hi9 (bits_len _) ⟨?_⟩
    intro t11 h11 k11 st11
    rw [num_bits hql]
    replace F2 := keepsFr F2 st11
    replace N2 := keepsNews N2 st11
    clear st11
    try dsimp only
    k_steps
    refine Halt.mk ?_
    refine c_int2ap (sit_of (dp := callerA.depth + 1) (un := callerA.units + 3) B0 F2 X0 T0 rfl rfl (by decide) (by decide)) (by omega) ?_
    intro t12 h12 k12 st12
    rw [Int.natAbs_natCast]
    replace F2 := keepsFr F2 st12
    replace N2 := keepsNews N2 st12
    clear st12
    try dsimp only
    k_steps
    refine Halt.mk ?_
    refine ne_none ?_
    try dsimp only
    k_steps
    · refine Halt.mk ?_
      (rename P _ _ ≠ 0 => hq)
      (rename Fr _ _ _ _ => F2)
      (rename News _ _ _ _ => N2)
      (rename Obj.data _ = _ => dN)
      (with_unfolding_all refine turn_end (x := (aR, _)) (c := (aC, _)) F2 N2 (ih _ _ ⟨aR, vR, nR, sp + g, _, _, _, _, _, gm_eq rfl rfl rfl rfl, rfl, hi9, ?_, hq, ?_, dN, OffA.three (o4.ne1 (by k_mem)) (o4.ne1 (by k_mem)) (o4.ne1 (by k_mem))⟩) ?_ ?_ ?_)
      · omega
      · rw [show sp + g + sp = g + (sp + sp) by omega]; exact hP1
      · k_subL
      · k_subL
      · ktu_offL
    · refine Halt.mk ?_
      (rename ¬ (P _ _ ≠ 0) => hq)
      (rename Obj.data _ = _ => dN)
      (with_unfolding_all refine turn_end (x := (aK, _)) (c := (aC, _)) F2 N2 (ih _ _ ⟨aK, vK, nK, g, _, _, _, _, _, gm_eq rfl rfl rfl rfl, rfl, hiK, hgi, hP0, ?_, dN, oK⟩) ?_ ?_ ?_)
      · rw [Nat.add_comm]; exact Decidable.not_not.mp hq
      · k_subL
      · k_subL
      · ktu_offL
  intro m5 n5 hI
  obtain ⟨aK, vK, nK, g, gi, tg, u, oS, v0, hm5, hn5, hiK, hgi, hP0, hP1, dS, oK⟩ := hI
  subst hm5 hn5
  have hkl := P_lt hn16 g
  (with_unfolding_all refine ItemsRest.zero (fun h' tk' F' N' => ?_))
  unfold GM at F'
  clear o1 o3 hi7
  k_with_none
  k_with "compareOp Eq int int" => refine eq_rounds hP0 hgi (by assumption) (by assumption) ?_
  try dsimp only
  k_with "state" => first | exact rw_start | exact rw_step hn16 hP1 (by assumption) (by assumption)
  k_with "measure" => exact rw_less hP1 (by assumption) (by assumption)
  k_with "exec While Compare cons nil" => k_while (fun (_ : List Int) a b => Rw n g a b) (fun (_ : List Int) _ b => (((g + 1 : Nat) : Int) - b).toNat) "number" "rounds"
  k_steps
  refine Halt.mk ?_
  have hLast : P g n = 65535 := last_word hkl hP0 hP1
  (rename Fr _ _ _ _ => F2)
  (rename News _ _ _ _ => N2)
  refine c_number (sit_of (dp := callerA.depth + 1) (un := callerA.units + 3) B0 F2 X0 T0 rfl rfl (by decide) (by decide)) (N2.isList (by k_mem)) hiK (bits_len _) ⟨?_⟩
  intro t11 h11 k11 st11
  rw [num_bits hkl, hLast]
  replace F2 := keepsFr F2 st11
  replace N2 := keepsNews N2 st11
  clear st11
  try dsimp only
  k_steps
  refine Halt.mk ?_
  refine c_int2ap (sit_of (dp := callerA.depth + 1) (un := callerA.units + 3) B0 F2 X0 T0 rfl rfl (by decide) (by decide)) (by decide) ?_
  intro t12 h12 k12 st12
  rw [Int.natAbs_natCast, apB_last]
  replace F2 := keepsFr F2 st12
  replace N2 := keepsNews N2 st12
  clear st12
  try dsimp only
  k_steps)
end Mine
end
set_option maxRecDepth 100000 in
theorem PySem.Challenge.cw_xc0005_01_holds : PySem.Challenge.rw_xc0005_01.Holds :=
  Mine.law_holds
