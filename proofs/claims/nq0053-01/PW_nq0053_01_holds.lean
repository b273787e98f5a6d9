import PyProof.Rows.All
import Wide.All
import OpenK.AllK
import Wide.FinOn
import PySem.Challenge.RW_nq0053_01
open PySem PySem.W PyProof.Rows PySem.Calls PySem.Spec
set_option Elab.async false
set_option maxRecDepth 100000
set_option rowWalk.seconds 0
-- part Head53
set_option maxHeartbeats 8000000
namespace Mine
open_top hd for PySem.Challenge.rw_nq0053_01
end Mine
-- part Base53
set_option maxHeartbeats 8000000
namespace Mine
section
variable {prog : Program} {w : World} {A₀ A : Around} {s : Shared} {base h₀ : Heap} {outer : List Env} {L : Addr} {m mg mb : Str → Option Value} {env : Env} {news : List (Addr × Obj)} {K : Frag}
  {R : Result → Shared → Prop} {name qual : Str} {params : Arguments} {body : List Stmt} {scope : Scope} {dV kV doc pm cdv ct oc : Value} {an od : Option Addr} {osl : Array (Option Value)} {f : Addr} {args : Args} {binds : List (Str × Value)}
  {p : Program} {loose : List Str} {mean : ExcName → Option Value}
/-- a call whose body changes nothing that stood: the ledger starts empty, what stood is the new ground -/
theorem code_pure
    (B : Below A₀ base outer h₀) (F : Fr h₀ L s.heap m) (X₀ : K.In h₀) (T : Top p loose mean mg mb h₀) (hA : A.frames = some (env :: outer)) (hf : env.frame = some L) (hke : env.scope.kind = .function)
    (ho : K.lookup f = some ⟨oc, od, .func (fnOf name qual params body scope dV kV doc pm an cdv ct), osl⟩) (hcd : codeIn K cdv qual = true) (hroom : A.depth < recursionLimit)
    (hbind : BindsTo s (fnOf name qual params body scope dV kV doc pm an cdv ct) args binds) (hloc : ∀ y ∈ binds, scope.names.lookup y.1 = some .local)
    (h : ∀ L' h₁, Fr s.heap L' h₁ (fun y => binds.reverse.lookup y) → News s.heap L' h₁ [] → Below A base (env :: outer) s.heap → K.In s.heap → Top p loose mean mg mb s.heap →
      wpAny (model prog w) (A.deeper (envOf qual scope L' f cdv)) (execs body (envOf qual scope L' f cdv))
        (fun fl s' => LeaveK h₀ L m s.heap (fun r s' => s.heap.StaysIn s'.heap → R r s') (match fl with | .ret v => v | _ => .none) s')
        (fun e s' => wpAny (model prog w) (A.deeper (envOf qual scope L' f cdv)) (leaving (envOf qual scope L' f cdv) e) (fun _ s'' => R (.error e) s'') (fun e' s'' => R (.error e') s'') s')
        { s with heap := h₁, toks := s.toks + binds.length })
    (hco : scope.isCoroutine = false) (hgen : scope.isGenerator = false) (hk : scope.kind = .function)
    (hcell : ∀ x ∈ scope.names, x.2 ≠ .cell) : codeAny (model prog w) A (.call (.ref f) args) R s := by
  obtain ⟨FG, BG, st, lv⟩ := groundX (R := fun r s' => s.heap.StaysIn s'.heap → R r s') B F (News.nil (h₀ := h₀) (L := L)) hA hf hke
  refine codeAny_call_def (fd := fnOf name qual params body scope dV kV doc pm an cdv ct) (body := body) (binds := binds) hroom ((X₀.keeps F.keep) _ _ ho) rfl (T.nolimit.keeps F.keep) (codeRec_of (X₀.keeps F.keep) hcd) rfl hbind hcell hloc (fun h₁ hns hk₁ => ?_) hco hgen hk
  refine wpAny_mono (h s.heap.objs.size h₁ ⟨hns, fun b o e => hk₁ b o e, Nat.le_refl _⟩ News.nil BG (X₀.keeps st) (T.keeps st)) (fun fl s' hl => ?_) fun _ _ y => y
  refine lv _ _ hl ?_
  obtain ⟨L', m', news', F', _, _⟩ := hl
  exact fun b o e => F'.keep b o e
/-- the same for a def with a cell of its own -/
theorem code_pureC
    (B : Below A₀ base outer h₀) (F : Fr h₀ L s.heap m) (X₀ : K.In h₀) (T : Top p loose mean mg mb h₀) (hA : A.frames = some (env :: outer)) (hf : env.frame = some L) (hke : env.scope.kind = .function)
    (ho : K.lookup f = some ⟨oc, od, .func (fnOf name qual params body scope dV kV doc pm an cdv ct), osl⟩) (hcd : codeIn K cdv qual = true) (hroom : A.depth < recursionLimit)
    (hbind : BindsTo s (fnOf name qual params body scope dV kV doc pm an cdv ct) args binds) (hkind : (binds.all fun y => scope.names.lookup y.1 == some .local || scope.names.lookup y.1 == some .cell) = true)
    (hnd : ((cellsFrom 0 scope.names []).map (·.1)).Nodup)
    (h : ∀ L' h₁ tk cells, Fr s.heap L' h₁ (bindL (envOfC qual scope L' f cdv).kindOf binds fun _ => none) → News s.heap L' h₁ cells →
      CellsAre (bindC (envOfC qual scope L' f cdv).kindOf binds fun _ => none) (cellsFrom (L' + 1) scope.names []) cells → Below A base (env :: outer) s.heap → K.In s.heap → Top p loose mean mg mb s.heap →
      wpAny (model prog w) (A.deeper (envOfC qual scope L' f cdv)) (execs body (envOfC qual scope L' f cdv))
        (fun fl s' => LeaveK h₀ L m s.heap (fun r s' => s.heap.StaysIn s'.heap → R r s') (match fl with | .ret v => v | _ => .none) s')
        (fun e s' => wpAny (model prog w) (A.deeper (envOfC qual scope L' f cdv)) (leaving (envOfC qual scope L' f cdv) e) (fun _ s'' => R (.error e) s'') (fun e' s'' => R (.error e') s'') s')
        { s with heap := h₁, toks := tk })
    (hco : scope.isCoroutine = false) (hgen : scope.isGenerator = false) (hk : scope.kind = .function) : codeAny (model prog w) A (.call (.ref f) args) R s := by
  obtain ⟨FG, BG, st, lv⟩ := groundX (R := fun r s' => s.heap.StaysIn s'.heap → R r s') B F (News.nil (h₀ := h₀) (L := L)) hA hf hke
  refine codeAny_call_function hroom ((X₀.keeps F.keep) _ _ ho) rfl hco hgen rfl (codeRec_of (X₀.keeps F.keep) hcd) (hbind _ _ _ _ ?_)
  refine wpAny_newFunctionEnv_cells hk (kindsX hkind _) fun env' he s' x => ?_
  subst he
  refine ⟨(T.nolimit.keeps F.keep).keeps x.toInCall.keep, codeAny_func ?_⟩
  obtain ⟨h₁, tk, rfl, _⟩ := x.done
  obtain ⟨cells, NC, Y⟩ := Cl.news (h₀ := s.heap) (Nat.le_refl _) fun n c hm => ⟨x.cell n c (lookup_of_mem_nodup (cellsFrom_names scope.names 0 (s.heap.objs.size + 1) [] [] rfl ▸ hnd) hm), x.above n c hm⟩
  refine wpAny_mono (h s.heap.objs.size h₁ tk cells ⟨x.toInCall.ns, x.toInCall.keep, Nat.le_refl _⟩ NC Y BG (X₀.keeps st) (T.keeps st)) (fun fl s' hl => ?_) fun _ _ y => y
  refine lv _ _ hl ?_
  obtain ⟨L', m', news', F', _, _⟩ := hl
  exact fun b o e => F'.keep b o e
theorem frStays {h h' : Heap} (F : Fr h₀ L h m) (S : h.StaysIn h') : Fr h₀ L h' m := F.keptAll S
theorem newsStays {h h' : Heap} (N : News h₀ L h news) (S : h.StaysIn h') : News h₀ L h' news := N.grown S
end
end Mine
-- part I2A
set_option maxHeartbeats 8000000
namespace Mine
def apL (n : Nat) : List UInt8 := if n = 0 then [] else apL (n / 16) ++ [UInt8.ofNat (65 + n % 16)]
termination_by n
theorem apL_zero : apL 0 = [] := by rw [apL]; rfl
theorem apL_pos {n : Nat} (h : n ≠ 0) : apL n = apL (n / 16) ++ [UInt8.ofNat (65 + n % 16)] := by rw [apL, if_neg h]
theorem apL_len (k : Nat) : ∀ n, n < 16 ^ k → (apL n).length ≤ k := by
  induction k with
  | zero => intro n h; have : n = 0 := by omega
            subst this; rw [apL_zero]; exact Nat.le_refl _
  | succ k ih =>
    intro n h
    by_cases h0 : n = 0
    · subst h0; rw [apL_zero]; exact Nat.zero_le _
    · rw [apL_pos h0, List.length_append]
      have := ih (n / 16) (by rw [Nat.pow_succ] at h; omega)
      simp only [List.length_singleton]; omega
section
variable {prog : Program} {w : World} {A : Around} {E : Value → Shared → Prop} {s : Shared} {value slice : PySem.Expr} {t ti tj : Tok} {h₀ : Heap} {L : Addr} {m : PySem.Str → Option Value} {news : List (Addr × Obj)} {Q : Value → Shared → Prop} {i j : Int}
theorem ap_picked (i : Int) (h0 : 0 ≤ i) (h1 : i < 16) : KBy.picked #[65, 66, 67, 68, 69, 70, 71, 72, 73, 74, 75, 76, 77, 78, 79, 80] (some i) (some (i + 1)) = #[UInt8.ofNat (65 + i.toNat)] := by
  have : i = 0 ∨ i = 1 ∨ i = 2 ∨ i = 3 ∨ i = 4 ∨ i = 5 ∨ i = 6 ∨ i = 7 ∨ i = 8 ∨ i = 9 ∨ i = 10 ∨ i = 11 ∨ i = 12 ∨ i = 13 ∨ i = 14 ∨ i = 15 := by omega
  rcases this with h | h | h | h | h | h | h | h | h | h | h | h | h | h | h | h <;> subst h <;> decide +kernel
theorem ap_slice (hF : Fr h₀ L s.heap m) (hN : News h₀ L s.heap news) (h0 : 0 ≤ i) (h1 : i < 16)
    (h : ∀ h' t' k, Fr h₀ L h' m → News h₀ L h' news → Q (.bytes #[UInt8.ofNat (65 + i.toNat)] t') { s with heap := h', toks := k })
    (hs : subscripted slice false (.bytes #[65, 66, 67, 68, 69, 70, 71, 72, 73, 74, 75, 76, 77, 78, 79, 80] t) (.ref s.heap.objs.size) = operate [.ref s.heap.objs.size, .bytes #[65, 66, 67, 68, 69, 70, 71, 72, 73, 74, 75, 76, 77, 78, 79, 80] t] (getItem (.bytes #[65, 66, 67, 68, 69, 70, 71, 72, 73, 74, 75, 76, 77, 78, 79, 80] t) (.ref s.heap.objs.size)) := by with_unfolding_all rfl)
    (ht : ∀ r, letTemporaryGo value (.bytes #[65, 66, 67, 68, 69, 70, 71, 72, 73, 74, 75, 76, 77, 78, 79, 80] t) r = pure () := by intro _; with_unfolding_all rfl) :
    wpAny (model prog w) A (subscriptTail value slice (.bytes #[65, 66, 67, 68, 69, 70, 71, 72, 73, 74, 75, 76, 77, 78, 79, 80] t) (.ref s.heap.objs.size)) Q E { s with heap := s.heap.push { cls := .type "slice", data := .fields #[.int i ti, .int (i + 1) tj, .none] } } := by
  refine KBc.slice_K hF hN rfl (by constructor) (by constructor) (by decide) (fun h' t' k F' N' _ => ?_) hs ht
  rw [ap_picked i h0 h1]
  exact h h' t' k F' N'
end
theorem fmod16_lo (n : Int) : 0 ≤ n.fmod 16 := by have := Int.fmod_nonneg_of_pos n (by decide : (0:Int) < 16); exact this
theorem fmod16_hi (n : Int) : n.fmod 16 < 16 := Int.fmod_lt_of_pos n (by decide)
theorem i2a_step {n₀ num : Int} {val : Array UInt8} (h2 : apL n₀.toNat = apL num.toNat ++ val.toList) (h0 : 0 ≤ num) (h1 : num ≤ n₀) (hz : num ≠ 0) :
    0 ≤ num.fdiv 16 ∧ num.fdiv 16 ≤ n₀ ∧ apL n₀.toNat = apL (num.fdiv 16).toNat ++ (#[UInt8.ofNat (65 + (num.fmod 16).toNat)] ++ val).toList := by
  rw [Int.fdiv_eq_ediv_of_nonneg _ (by decide), Int.fmod_eq_emod_of_nonneg _ (by decide)]
  refine ⟨by omega, by omega, ?_⟩
  rw [h2, apL_pos (n := num.toNat) (by omega)]
  have e1 : num.toNat / 16 = (num / 16).toNat := by omega
  have e2 : num.toNat % 16 = (num % 16).toNat := by omega
  rw [e1, e2]
  simp
theorem i2a_less {num : Int} (h0 : 0 ≤ num) (hz : num ≠ 0) : (num.fdiv 16).toNat < num.toNat := by
  rw [Int.fdiv_eq_ediv_of_nonneg _ (by decide)]
  omega
theorem i2a_size {n₀ num : Int} {val : Array UInt8} (h2 : apL n₀.toNat = apL num.toNat ++ val.toList) (h0 : 0 ≤ num) (h1 : num ≤ n₀) (hn : n₀ < 2 ^ 32) : val.size ≤ 8 := by
  have e : n₀.toNat < 16 ^ 8 := by
    have : (16 : Nat) ^ 8 = 4294967296 := by decide
    rw [this]
    omega
  have q := apL_len 8 n₀.toNat e
  rw [h2, List.length_append, Array.length_toList] at q
  exact Nat.le_trans (Nat.le_add_left _ _) q
theorem i2a_end {n₀ : Int} {val : Array UInt8} {t : Tok} {s : Shared} {Q : Value → Shared → Prop} {h' : Heap} {tk : Nat} (hQ : ∀ t' h' tk', s.heap.StaysIn h' → Q (.bytes (apL n₀.toNat).toArray t') { s with heap := h', toks := tk' }) {num : Int} (h2 : apL n₀.toNat = apL num.toNat ++ val.toList) (hz : num = 0) (hst : s.heap.StaysIn h') : Q (.bytes val t) { s with heap := h', toks := tk } := by
  have := hQ t h' tk hst
  rw [h2, hz] at this
  simpa [apL_zero] using this
local macro_rules | `(tactic| walk_at "subscriptTail") => `(tactic| (k_here; (with_reducible show wpAny _ _ (subscriptTail _ (Expr.Slice _ _ none _) (Value.bytes _ _) (Value.ref _)) _ _ _); (with_reducible rename Fr _ _ _ _ => F'); (with_reducible rename News _ _ _ _ => N'); (refine ap_slice (s := ⟨_, _, _, _, _⟩) F' N' (fmod16_lo _) (fmod16_hi _) ?_); intro _ _ _ _ _))
local macro_rules | `(tactic| walk_at "binaryOp Add bytes bytes") => `(tactic| (k_here; (with_reducible show wpAny _ _ (binaryOp Operator.Add (Value.bytes _ _) (Value.bytes _ _)) _ _ _); (refine KBy.add_bytes (by have q := i2a_size (by assumption) (by assumption) (by assumption) (by assumption); simp only [List.size_toArray, List.length_cons, List.length_nil]; omega) ?_); intro _ _))
theorem i2a {w : World} {mean : ExcName → Option Value} {mg mb : Str → Option Value} (n : Int) (t : Tok) (hn : (if n < 0 then -n else n) < 2 ^ 32)
  (dp un : Nat) (gd : Option (List Code)) (cn : Str) (cs : Scope) (a : Addr) (ccd : Value) (cl : List (Str × Addr)) (outer : List Env) (A₀ : Around) (base h₀ : Heap) (L : Addr) (m : Str → Option Value) (s : Shared) (Q E : Value → Shared → Prop)
  (B : Below A₀ base outer h₀) (F : Fr h₀ L s.heap m) (X : (hd.heap_39 w.params).In h₀) (T : Top topProg (looseW hd.view_39 [Str.ofString "_initial_missing", Str.ofString "reduce", Str.ofString "_filemode_table"] ++ List.map (fun x => x.name) (recsOf hd.view_39) ++ List.map (fun x => x.fst) (litsOf hd.view_39) ++ List.map (fun x => x.name) (clssOf hd.view_39 (looseW hd.view_39 [Str.ofString "_initial_missing", Str.ofString "reduce", Str.ofString "_filemode_table"]))) mean mg mb h₀) (hk : cs.kind = .function)
  (hdp : dp + 1 < recursionLimit) (hun : un + 8 < cLine)
  (hQ : ∀ t' h' tk', s.heap.StaysIn h' → Q (.bytes (apL (if n < 0 then -n else n).toNat).toArray t') { s with heap := h', toks := tk' }) :
  wpAny (model PySem.Challenge.rw_nq0053_01.prog w) (ktrTop dp un gd cn cs L a ccd cl outer) (call (.ref 21) [.int n t]) Q E s := by
  w_top off
  k_with_none
  k_with "exec While Name cons nil" => k_while_given ["num!"] (fun n₀ script num val => 0 ≤ num ∧ num ≤ n₀ ∧ apL n₀.toNat = apL num.toNat ++ val.toList) (fun n₀ script num val => num.toNat) "num" "val"
  k_with "measure" => exact i2a_less (by assumption) (by assumption)
  k_with "state" => first | exact i2a_step (by assumption) (by assumption) (by assumption) (by assumption) | (refine ⟨?_, ?_, ?_⟩; (split <;> omega); (exact Int.le_refl _); (simp))
  refine wpAny_call ?_
  revert X
  k_fill
  intro X
  (refine' code_pure ?k1 ?k2 ?k3 ?k5 ?kA ?kF ?kK ?k6 ?k7 ?k8 ?k9 ?kB ?_ ?c2 ?c3 ?c4 ?c5; (case kA => exact rfl); (case kF => exact rfl); (case kK => assumption); (case k1 => k_asm); (case k2 => k_asm); (case k3 => k_asm); (case k5 => k_asm); (case k6 => k_is); (case k7 => k_is); (case k8 => ktr_room); (case k9 => exact BindsTo.of_eq rfl); (case c5 => decide); (case kB => exact locs rfl); (case c2 => exact rfl); (case c3 => exact rfl); (case c4 => exact rfl); k_whole; intro L' h' F' N' B' X' T'; (try dsimp only); (try k_lift B'); (try k_fold))
  k_steps
  all_goals exact i2a_end hQ (by assumption) (by assumption) (by assumption)
end Mine
-- part Comp53
set_option maxHeartbeats 1000000
namespace Mine
section
variable {prog : Program} {w : World} {A : Around} {h₀ : Heap} {L : Addr} {m : Str → Option Value} {env : Env} {ct elt : Expr} {x : Str} {scope : Scope} {cl : List (Str × Addr)} {s : Shared} {S : List (Addr × Obj) → Prop} {P : Nat → Value → Prop} {Fin : List Value → List (Addr × Obj) → Prop} {news : List (Addr × Obj)}
/-- what a turn of a comprehension with one test shows -/
abbrev FTurn (prog : Program) (w : World) (A : Around) (h₀ : Heap) (L : Addr) (m : Str → Option Value) (env : Env) (ct elt : Expr) (scope : Scope) (cl : List (Str × Addr)) (s : Shared) (S : List (Addr × Obj) → Prop) (news : List (Addr × Obj)) (b : Int → Bool) (g : Int → Int) (k : Int) (I : Addr) (oI : Obj) (C : Addr) (oC : Obj) (D : Addr) (ys : List Value) (h : Heap) (tk : Nat) (E' : Value → Shared → Prop) : Prop :=
  wpAny (model prog w) A (isTrue ct (compEnvC scope cl C env) (eval ct (compEnvC scope cl C env))) (fun ok s' => if ok = true then
    wpAny (model prog w) A (eval elt (compEnvC scope cl C env)) (LCg.CompEnd h₀ L m { s with heap := h, toks := tk } I oI C oC D (LCg.lst ys) S (fun y news' => b k = true ∧ KCfEl news (g k) y news')) E' s'
    else LCg.CompEnd h₀ L m { s with heap := h, toks := tk } I oI C oC D (LCg.lst ys) S (fun _ news' => b k = false ∧ news' = news) Value.none s') E' { s with heap := h, toks := tk }
theorem cft_rest {n : Nat} {ks : List Int} (b : Int → Bool) (g : Int → Int) (hks : ks.length = n) (hP : ∀ i v, i < n → P i v → ∃ k t, ks[i]? = some k ∧ v = .int k t)
    (turn : ∀ k t I oI C oC D m₂ ys h tk (E' : Value → Shared → Prop), k ∈ ks → LCg.NsObj oC m₂ → m₂ x = some (.int k t) → Fr h₀ L h m → News h₀ L h ((I, oI) :: (C, oC) :: (D, LCg.lst ys) :: news) → LCg.Off3 I C D news → ((@Ne Nat I C) ∧ (@Ne Nat I D) ∧ (@Ne Nat C D)) →
      FTurn prog w A h₀ L m env ct elt scope cl s S news b g k I oI C oC D ys h tk E')
    (fin : ∀ ys, IntsAre ys ((ks.filter b).map g) → Fin ys news) : LCt.CompRestT prog w A h₀ L m env ct elt x scope cl s S P Fin n 0 [] news := by
  have key : ∀ (j i : Nat) (ys : List Value), i + j = n → IntsAre ys (((ks.take i).filter b).map g) → LCt.CompRestT prog w A h₀ L m env ct elt x scope cl s S P Fin j i ys news := by
    intro j
    induction j with
    | zero =>
      intro i ys hi hy
      have e : i = ks.length := by omega
      subst e
      rw [List.take_length] at hy
      exact LCt.CompRestT.zero (fin ys hy)
    | succ j ih =>
      intro i ys hi hy
      refine LCt.CompRestT.succ ?_
      intro v I oI C oC D m₂ h tk E' hv hC hx F N off ne
      obtain ⟨k, t, hk, hv'⟩ := hP i v (by omega) hv
      rw [hv'] at hx
      refine wpAny_mono (turn k t I oI C oC D m₂ ys h tk E' (List.mem_of_getElem? hk) hC hx F N off ne) (fun ok s₂ hq => ?_) fun _ _ e => e
      cases ok with
      | true =>
        simp only [if_true] at hq ⊢
        refine wpAny_mono hq (fun y s₃ hy₃ => ?_) fun _ _ e => e
        obtain ⟨h', tk', nw, e, F', N', off', hS, hb, hn, t', hy'⟩ := hy₃
        rw [hn] at N' off' hS
        refine ⟨h', tk', news, e, F', N', off', hS, ?_⟩
        rw [hy']
        refine ih (i + 1) _ (by omega) ?_
        rw [List.take_add_one, hk]
        simp only [Option.toList_some, List.filter_append, List.map_append]
        have e2 : List.map g (List.filter b [k]) = [g k] := by simp [hb]
        rw [e2]
        exact IntsAre.append hy (.cons (g k) t' .nil)
      | false =>
        simp only [Bool.false_eq_true, if_false] at hq ⊢
        obtain ⟨h', tk', nw, e, F', N', off', hS, hb, hn⟩ := hq
        rw [hn] at N' off' hS
        refine ⟨h', tk', news, e, F', N', off', hS, ?_⟩
        refine ih (i + 1) _ (by omega) ?_
        rw [List.take_add_one, hk]
        simp only [Option.toList_some, List.filter_append, List.map_append]
        have e2 : List.map g (List.filter b [k]) = [] := by simp [hb]
        rw [e2, List.append_nil]
        exact hy
  exact key n 0 [] (by omega) (by simp only [List.take_zero, List.filter_nil, List.map_nil]; exact .nil)
theorem cft_range {n : Nat} {a : Int} (b : Int → Bool) (g : Int → Int)
    (turn : ∀ k t I oI C oC D m₂ ys h tk (E' : Value → Shared → Prop), a ≤ k → k < a + (n : Int) → LCg.NsObj oC m₂ → m₂ x = some (.int k t) → Fr h₀ L h m → News h₀ L h ((I, oI) :: (C, oC) :: (D, LCg.lst ys) :: news) → LCg.Off3 I C D news → ((@Ne Nat I C) ∧ (@Ne Nat I D) ∧ (@Ne Nat C D)) →
      FTurn prog w A h₀ L m env ct elt scope cl s S news b g k I oI C oC D ys h tk E')
    (fin : ∀ ys, IntsAre ys (((rangeKs a n).filter b).map g) → Fin ys news) : LCt.CompRestT prog w A h₀ L m env ct elt x scope cl s S (fun i v => ∃ t, v = .int (a + (i : Int)) t) Fin n 0 [] news :=
  cft_rest (ks := rangeKs a n) b g (rangeKs_length a n) (fun i v hi hv => by
    obtain ⟨t, e⟩ := hv
    exact ⟨a + (i : Int), t, by simp [rangeKs, hi], e⟩)
    (fun k t I oI C oC D m₂ ys h tk E' hk hC hx F N off ne => turn k t I oI C oC D m₂ ys h tk E' (mem_rangeKs hk).1 (mem_rangeKs hk).2 hC hx F N off ne) fin
theorem cft_list {vs : List Value} {ns : List Int} (b : Int → Bool) (g : Int → Int) (hi : IntsAre vs ns)
    (turn : ∀ k t I oI C oC D m₂ ys h tk (E' : Value → Shared → Prop), k ∈ ns → LCg.NsObj oC m₂ → m₂ x = some (.int k t) → Fr h₀ L h m → News h₀ L h ((I, oI) :: (C, oC) :: (D, LCg.lst ys) :: news) → LCg.Off3 I C D news → ((@Ne Nat I C) ∧ (@Ne Nat I D) ∧ (@Ne Nat C D)) →
      FTurn prog w A h₀ L m env ct elt scope cl s S news b g k I oI C oC D ys h tk E')
    (fin : ∀ ys, IntsAre ys ((ns.filter b).map g) → Fin ys news) : LCt.CompRestT prog w A h₀ L m env ct elt x scope cl s S (fun i v => vs.toArray[i]? = some v) Fin vs.toArray.size 0 [] news :=
  cft_rest (ks := ns) b g (by rw [List.size_toArray]; exact hi.length.symm) (fun i v _ hv => by
    obtain ⟨k, t, e, hk⟩ := IntsAre.at hi i v (by simpa using hv)
    exact ⟨k, t, hk, e⟩) turn fin
end
end Mine
-- part Bare
set_option maxHeartbeats 1000000
namespace Mine
def bareN (ns : List Int) : List Int := (ns.dropWhile (· == 0)).map (· + 65)
section
variable {prog : Program} {w : World} {A : Around} {E : Value → Shared → Prop} {s : Shared} {h₀ : Heap} {L : Addr} {news : List (Addr × Obj)}
theorem len_ints {D : Addr} {ys : List Value} {zs : List Int} {z : Nat} {Q : Value → Shared → Prop} (N : News h₀ L s.heap ((D, LCg.lst ys) :: news)) (hi : IntsAre ys zs) (hz : zs.length = z) (hlt : z < 2 ^ 62)
    (h : Q (.int (z : Int) (s.toks + 1)) { s with toks := s.toks + 1 + 1 }) : wpAny (model prog w) A (call (.builtin "len") [.ref D]) Q E s := by
  have e : ys.toArray.size = z := by rw [List.size_toArray, hi.length, hz]
  refine Calls.call_len_list (News.isList N (List.Mem.head _)) (by rw [e]; omega) ?_
  rw [e]
  exact h
theorem ints_reps (t : Tok) : ∀ n : Nat, IntsAre (List.replicate n (.int 0 t)) (List.replicate n 0)
  | 0 => .nil
  | n + 1 => .cons 0 t (ints_reps t n)
theorem mul_zero_list {m : Str → Option Value} {D₀ : Addr} {t u : Tok} {x : Int} {Q : Value → Shared → Prop} (F : Fr h₀ L s.heap m) (N : News h₀ L s.heap ((D₀, { cls := .type "list", data := .seq #[Value.int 0 t] }) :: news)) (h0 : 0 ≤ x) (h1 : x ≤ 100)
    (h : ∀ D h', Fr h₀ L h' m → News h₀ L h' ((D, W.listOf (List.replicate x.toNat (Value.int 0 t)).toArray 0) :: (D₀, { cls := .type "list", data := .seq #[Value.int 0 t] }) :: news) → (∀ p ∈ ((D₀, { cls := .type "list", data := .seq #[Value.int 0 t] }) :: news), p.1 < D) →
      IntsAre (List.replicate x.toNat (Value.int 0 t)) (List.replicate x.toNat 0) → Q (.ref D) { s with heap := h' }) : wpAny (model prog w) A (binaryOp .Mult (.ref D₀) (.int x u)) Q E s := by
  refine KM.mul (vs := [Value.int 0 t]) F N (News.isList N (List.Mem.head _)) (IntsAre.cons 0 t .nil) (by omega) (by omega) (by simp only [List.length_cons, List.length_nil]; omega) ?_
  intro D h' F' N' l _ _ _ _ _ _
  have e : (List.replicate x.toNat [Value.int 0 t]).flatten = List.replicate x.toNat (Value.int 0 t) := by simp
  rw [e] at N'
  exact h D h' F' N' l (ints_reps t _)
end
def zn (ns : List Int) : Nat := (ns.takeWhile (· == 0)).length
theorem zn_le (ns : List Int) : zn ns ≤ ns.length := by
  unfold zn
  induction ns with
  | nil => exact Nat.le_refl _
  | cons x r ih => simp only [List.takeWhile_cons]; split <;> simp <;> omega
theorem zn_drop (ns : List Int) : ns.drop (zn ns) = ns.dropWhile (· == 0) := by
  unfold zn
  induction ns with
  | nil => rfl
  | cons x r ih =>
    simp only [List.takeWhile_cons, List.dropWhile_cons]
    split
    · simpa using ih
    · rfl
def zb (ns : List Int) (k : Int) : Bool := decide (ns.take (k.toNat + 1) = List.replicate (k.toNat + 1) 0)
local macro_rules | `(tactic| walk_at "exec Assign cons ListComp") => `(tactic| (k_here; k_dflt (refine LCt.Assign_ListComp_T (F₀ := by k_asm) (by rfl) (by with_unfolding_all rfl) (by with_unfolding_all rfl) (by decide) (by rfl) (by decide) (by rfl) (by rfl) (by rfl) ?_)))
theorem zb_iff (ns : List Int) (k : Nat) (hk : k < ns.length) : zb ns (k : Int) = decide (k < zn ns) := by
  unfold zb zn
  rw [Int.toNat_natCast]
  induction ns generalizing k with
  | nil => simp at hk
  | cons x r ih =>
    rw [List.take_succ_cons, List.replicate_succ, List.takeWhile_cons]
    by_cases hx : x = 0
    · subst hx
      cases k with
      | zero => simp
      | succ k =>
        have := ih k (by simpa using hk)
        simp only [List.cons.injEq, true_and, beq_self_eq_true, if_true, List.length_cons]
        rw [this]
        simp
    · have : ¬ ((x == 0) = true) := by simpa using hx
      simp [hx]
theorem filter_lt (n z : Nat) (hz : z ≤ n) : (((rangeKs 0 n).filter fun k => decide (k < (z : Int))).map fun k => k).length = z := by
  rw [List.map_id']
  have e : ∀ n, (rangeKs 0 (n + 1)) = rangeKs 0 n ++ [(n : Int)] := fun n => by
    simp [rangeKs, List.range_succ]
  induction n with
  | zero => have : z = 0 := by omega
            subst this; rfl
  | succ n ih =>
    rw [e, List.filter_append, List.length_append]
    by_cases hzn : z ≤ n
    · rw [ih hzn]
      have : ¬ ((n : Int) < (z : Int)) := by omega
      simp [this]
    · have hz' : z = n + 1 := by omega
      subst hz'
      have h1 : ∀ a ∈ rangeKs 0 n, decide (a < ((n + 1 : Nat) : Int)) = true := fun a ha => by
        have := (mem_rangeKs ha).2
        simp; omega
      rw [List.filter_eq_self.mpr h1, rangeKs_length]
      have : decide ((n : Int) < ((n + 1 : Nat) : Int)) = true := by simp; omega
      rw [List.filter_cons, if_pos this]
      rfl
theorem ahead_len (ns : List Int) : (((rangeKs 0 ns.length).filter (zb ns)).map fun k => k).length = zn ns := by
  rw [← filter_lt ns.length (zn ns) (zn_le ns)]
  congr 2
  refine List.filter_congr fun k hk => ?_
  have h := mem_rangeKs hk
  obtain ⟨j, rfl⟩ : ∃ j : Nat, k = (j : Int) := ⟨k.toNat, by omega⟩
  rw [zb_iff ns j (by omega)]
  simp
set_option hygiene false in
local macro_rules | `(tactic| walk_at "CompSrcT") => `(tactic| (k_here; k_dflt (refine LCt.CompSrcT.range (by rfl) (by k_asm) (by k_asm) (by assumption) (small_one (by omega) (by omega) (by omega) (by omega)) (rangeSize_nat _ _) (by rw [PySem.sizeLine_eq]; omega) ?_; intro g'; (refine cft_range (zb ns) (fun k => k) (fun k' t' I' oI' C' oC' D' m' ys' h' tk' E' hlo' hhi' hC' hx' F' N' off' ne' => ?_) ?_); (all_goals (try (simp only [LCg.Off3, and_true] at off'))); kcf_last)))
local macro_rules | `(tactic| walk_at "binaryOp Mult ref int") => `(tactic| (k_here; (with_reducible show wpAny _ _ (binaryOp Operator.Mult (Value.ref _) (Value.int _ _)) _ _ _); k_dflt (refine mul_zero_list (by k_asm) (by k_asm) (by omega) (by omega) ?_); (intro D' h' F' N' l1 i1); (try k_lt l1)))
set_option hygiene false in
local macro_rules | `(tactic| walk_at "call builtin:len") => `(tactic| (k_here; (with_reducible show wpAny _ _ (call (Value.builtin "len") [Value.ref _]) _ _ _); k_dflt (refine len_ints (by k_asm) (by assumption) (ahead_len ns) (by have := zn_le ns; omega) ?_)))
local macro_rules | `(tactic| walk_at "CompEnd") => `(tactic| first
  | (refine LCg.CompEnd.intro (by assumption) (by assumption) _ (by kcf_all) (by first | assumption | (simp only [LCg.Off3, and_true]; first | done | assumption)) trivial ⟨?_, kcf_el rfl rfl rfl⟩)
  | (refine LCg.CompEnd.intro (by assumption) (by assumption) _ (by kcf_all) (by first | assumption | (simp only [LCg.Off3, and_true]; first | done | assumption)) trivial ⟨?_, rfl⟩))
set_option hygiene false in
local macro_rules | `(tactic| walk_at "subscriptTail Name Slice ref ref") => `(tactic| (k_here; (with_reducible show wpAny _ _ (subscriptTail _ (PySem.Expr.Slice _ _ none _) (Value.ref _) (Value.ref _)) _ _ _); k_dflt (refine kmk_slice_ints (by k_asm) (by k_asm) (Fr.lst (by k_asm) hl) (by kmk_part) (by kmk_part) hI (by first | exact kmk_from hI (by omega) | exact kmk_upto hI (by omega)) rfl ?_ (by with_unfolding_all rfl) (by kmk_pure) (kmk_sz hI (by rw [PySem.sizeLine_eq]; omega))); intro D' ws' h' F' N' l1 hI' hC' hL'; (try k_lt l1)))
local macro_rules | `(tactic| walk_at "eval ListComp") => `(tactic| (k_here; k_dflt (refine LCg.ListComp_U (F₀ := by k_asm) (by with_unfolding_all rfl) (by decide) (by rfl) (by decide) (by rfl) ?_)))
set_option hygiene false in
local macro_rules | `(tactic| walk_at "CompSrc") => `(tactic| (k_here; k_dflt (refine LCg.CompSrc.ledger (by rfl) (by k_asm) (by k_asm) (List.Mem.head _) (kmk_sz hI' (by rw [PySem.sizeLine_eq]; omega)) ?_; intro g'; (refine kcf_list (fun k => k + 65) hI' (fun k' t' I' oI' C' oC' D' m' ys' h' tk' E' hk' hC' hx' F' N' off' ne' hMark' => ?_) ?_); (all_goals (try (simp only [LCg.Off3, and_true] at off'))); kcf_last)))
theorem zb_true {ns : List Int} {k : Int} (h : List.take (k + 1).toNat ns = List.replicate (k + 1).toNat 0) (h0 : 0 ≤ k) : zb ns k = true := by
  unfold zb
  have e : (k + 1).toNat = k.toNat + 1 := by omega
  rw [e] at h
  exact decide_eq_true h
theorem zb_false {ns : List Int} {k : Int} (h : ¬ List.take (k + 1).toNat ns = List.replicate (k + 1).toNat 0) (h0 : 0 ≤ k) : zb ns k = false := by
  unfold zb
  have e : (k + 1).toNat = k.toNat + 1 := by omega
  rw [e] at h
  exact decide_eq_false h
theorem bareN_eq (ns : List Int) : List.map (fun k => k + 65) (List.drop ((zn ns : Nat) : Int).toNat ns) = bareN ns := by
  rw [Int.toNat_natCast, zn_drop]
  rfl
theorem bare_in {ns : List Int} (n : Nat) (hr : ∀ x ∈ ns, 0 ≤ x ∧ x < 16) : KBa.In (List.map (fun k => k + 65) (List.drop n ns)) := by
  intro x hx
  obtain ⟨y, hy, rfl⟩ := List.mem_map.1 hx
  have := hr y (List.mem_of_mem_drop hy)
  omega
theorem bare_le {ns : List Int} (n : Nat) (h : ns.length ≤ 8) : (List.map (fun k : Int => k + 65) (List.drop n ns)).length ≤ 16777216 := by
  rw [List.length_map, List.length_drop]
  omega
theorem bare_end {ns : List Int} {t : Tok} {s : Shared} {Q : Value → Shared → Prop} {h' : Heap} {tk : Nat} (hQ : ∀ t' h' tk', s.heap.StaysIn h' → Q (.bytes (byteArr (bareN ns)) t') { s with heap := h', toks := tk' }) (hst : s.heap.StaysIn h') :
    Q (.bytes (byteArr (List.map (fun k => k + 65) (List.drop ((zn ns : Nat) : Int).toNat ns))) t) { s with heap := h', toks := tk } := by
  rw [bareN_eq]
  exact hQ t h' tk hst
set_option hygiene false in
local macro_rules | `(tactic| walk_at "call type:bytes") => `(tactic| (k_here; (with_reducible show wpAny _ _ (call (Value.type "bytes") [Value.ref _]) _ _ _); k_dflt (refine KBa.make_K (by k_asm) (by k_asm) (by rfl) (News.isList (by k_asm) (List.Mem.head _)) (by assumption) (bare_in _ hr) (bare_le _ hlen) ?_); intro _ _ _ _ _ _))
theorem bare {w : World} {mean : ExcName → Option Value} {mg mb : Str → Option Value} (l : Addr) (vs : List Value) (ns : List Int) 
  (dp un : Nat) (gd : Option (List Code)) (cn : Str) (cs : Scope) (a : Addr) (ccd : Value) (cl : List (Str × Addr)) (outer : List Env) (A₀ : Around) (base h₀ : Heap) (L : Addr) (m : Str → Option Value) (s : Shared) (Q E : Value → Shared → Prop)
  (hl : s.heap.IsList l vs.toArray) (hI : IntsAre vs ns) (hr : ∀ x ∈ ns, 0 ≤ x ∧ x < 16) (hlen : ns.length ≤ 8)
  (B : Below A₀ base outer h₀) (F : Fr h₀ L s.heap m) (X : (hd.heap_39 w.params).In h₀) (T : Top topProg (looseW hd.view_39 [Str.ofString "_initial_missing", Str.ofString "reduce", Str.ofString "_filemode_table"] ++ List.map (fun x => x.name) (recsOf hd.view_39) ++ List.map (fun x => x.fst) (litsOf hd.view_39) ++ List.map (fun x => x.name) (clssOf hd.view_39 (looseW hd.view_39 [Str.ofString "_initial_missing", Str.ofString "reduce", Str.ofString "_filemode_table"]))) mean mg mb h₀) (hk : cs.kind = .function)
  (hdp : dp + 1 < recursionLimit) (hun : un + 100 < cLine)
  (hQ : ∀ t' h' tk', s.heap.StaysIn h' → Q (.bytes (byteArr (bareN ns)) t') { s with heap := h', toks := tk' }) :
  wpAny (model PySem.Challenge.rw_nq0053_01.prog w) (ktrTop dp un gd cn cs L a ccd cl outer) (call (.ref 110) [.ref l]) Q E s := by
  w_top off
  k_with_none
  refine wpAny_call ?_
  revert X
  k_fill
  intro X
  (refine' code_pureC ?k1 ?k2 ?k3 ?k5 ?kA ?kF ?kK ?k6 ?k7 ?k8 ?k9 ?kB ?kD ?_ ?c2 ?c3 ?c4; (case kA => exact rfl); (case kF => exact rfl); (case kK => assumption); (case k1 => k_asm); (case k2 => k_asm); (case k3 => k_asm); (case k5 => k_asm); (case k6 => k_is); (case k7 => k_is); (case k8 => ktr_room); (case k9 => exact BindsTo.of_eq rfl); (case kB => exact rfl); (case kD => decide +kernel); (case c2 => exact rfl); (case c3 => exact rfl); (case c4 => exact rfl); k_whole; intro L' h' tk' cells' F' N' Y' B' X' T'; k_cells Y'; (try simp only [List.cons_append, List.nil_append] at N'); (try dsimp only); (try k_lift B'); (try k_fold))
  repeat' (first | (k_unfold; (try dsimp only)) | walk1 | (dsimp only; walk1))
  all_goals first
    | exact zb_true (by assumption) (by assumption)
    | exact zb_false (by assumption) (by assumption)
    | exact bare_end hQ (by assumption)
    | skip
end Mine
-- part Enum53
set_option maxHeartbeats 1000000
namespace Mine
open AutoSeq1 (wpAny_loadPart')
section
variable {prog : Program} {w : World} {A : Around} {E : Value → Shared → Prop} {s : Shared}
theorem nextT_item {it t : Addr} {i : Nat} {items : Array Value} {x : Value} {Q : Value → Shared → Prop} (hit : s.heap.IsTupleIter it t i) (ht : s.heap.IsTuple t items) (hx : items[i]? = some x)
    (hQ : ∀ h', h'.IsTupleIter it t (i + 1) → Heap.SameBut it s.heap h' → Q x { s with heap := h' }) :
    wpAny (model prog w) A (Builtin.SmallTypes.nextOf (.ref it)) Q E s := by
  obtain ⟨o, ho, hc, hd⟩ := id hit
  obtain ⟨ol, hol, _, nl, hdl⟩ := ht
  unfold Builtin.SmallTypes.nextOf
  refine wpAny_bind (wpAny_callSpecial?_slot (name := Str.ofString "__next__") hit.typeIs F.slot_tuple_iterator_next (wpAny_call_entry F.slot_tuple_iterator_next hit.typeIs F.entry_tuple_iterator_next ?_ (F.args_tuple_iterator_next_1 _)))
  show wpAny _ _ (field (.ref it) 0 >>= _) _ _ s
  refine wpAny_bind (wpAny_field ho hd (x := .ref t) rfl ?_)
  show wpAny _ _ (if (Value.ref t == Value.none) = true then _ else _) _ _ s
  rw [if_neg (show ¬ ((Value.ref t == Value.none) = true) from Bool.false_ne_true)]
  show wpAny _ _ (field (.ref it) 1 >>= _) _ _ s
  refine wpAny_bind (wpAny_field ho hd (x := .int i 0) rfl ?_)
  show wpAny _ _ (seqItems? (.ref t) >>= _) _ _ s
  refine wpAny_bind (wpAny_seqItems hol hdl ?_)
  simp only [Int.toNat_natCast, hx]
  refine wpAny_bind (wpAny_setField ho hd (by simp) (wpAny_pure ⟨x, rfl, wpAny_pure (hQ _ ?_ (Heap.SameBut.update ..))⟩))
  exact ⟨_, Heap.get?_update_self _ ho (Obj.isFreed_of_fields (Obj.data_mapFields hd _)), (Obj.cls_mapFields ..).trans hc, by rw [Obj.data_mapFields hd]; simp [rawInt]⟩
theorem nextT_end {it t : Addr} {i : Nat} {items : Array Value} {Q : Value → Shared → Prop} (hh : A.handled = none) (hit : s.heap.IsTupleIter it t i) (ht : s.heap.IsTuple t items) (hx : items[i]? = none)
    (hE : ∀ h' e, Heap.ExtBut it s.heap h' → (∃ o, h'.get? e = some o ∧ o.cls = .type "StopIteration") → E (.ref e) { s with heap := h' }) :
    wpAny (model prog w) A (Builtin.SmallTypes.nextOf (.ref it)) Q E s := by
  obtain ⟨o, ho, hc, hd⟩ := id hit
  obtain ⟨ol, hol, _, nl, hdl⟩ := ht
  unfold Builtin.SmallTypes.nextOf
  refine wpAny_bind (wpAny_callSpecial?_slot (name := Str.ofString "__next__") hit.typeIs F.slot_tuple_iterator_next (wpAny_call_entry F.slot_tuple_iterator_next hit.typeIs F.entry_tuple_iterator_next ?_ (F.args_tuple_iterator_next_1 _)))
  show wpAny _ _ (field (.ref it) 0 >>= _) _ _ s
  refine wpAny_bind (wpAny_field ho hd (x := .ref t) rfl ?_)
  show wpAny _ _ (if (Value.ref t == Value.none) = true then _ else _) _ _ s
  rw [if_neg (show ¬ ((Value.ref t == Value.none) = true) from Bool.false_ne_true)]
  show wpAny _ _ (field (.ref it) 1 >>= _) _ _ s
  refine wpAny_bind (wpAny_field ho hd (x := .int i 0) rfl ?_)
  show wpAny _ _ (seqItems? (.ref t) >>= _) _ _ s
  refine wpAny_bind (wpAny_seqItems hol hdl ?_)
  simp only [Int.toNat_natCast, hx]
  refine wpAny_bind (wpAny_rule (wpAny_bind (wpAny_setField ho hd (by simp) ?_)))
  show wpAny _ _ (newExc (.type "StopIteration") [] >>= _) _ _ _
  refine wpAny_bind ?_
  simp only [newExc, newTuple]
  refine wpAny_bind (wpAny_newObj_type ?_ (by size_fits))
  refine wpAny_bind (m := firstArgMember _ _) (wpAny_of_eq (a := Value.none) (by first | rfl | (simp only [firstArgMember]; rfl)) ?_)
  refine wpAny_newObj_type ?_ (by size_fits)
  simp only [raiseNew]
  refine wpAny_bind (wpAny_handled ?_)
  first | rw [show A.in1.handled = none from hh] | rw [hh]
  refine wpAny_bind (wpAny_pure (wpAny_throw ?_))
  exact hE _ _ (((Heap.SameBut.update ..).extBut.push _).push _) ⟨_, Heap.get?_push_size _ rfl, rfl⟩
/-- a tuple's iterator as a source of enumerate -/
theorem drawsT (hh : A.handled = none) (it l : Addr) (hne : l ≠ it) (items : Array Value) :
    Draws prog w A it [it, l] items.size (fun i v => items[i]? = some v) (fun i h => h.IsTupleIter it l i ∧ h.IsTuple l items) := by
  refine ⟨fun i h st => ?_, fun i h h' st hk => ?_, fun i s Q E hi st hQ => ?_, fun s Q E st hE => nextT_end hh st.1 st.2 (by simp) hE⟩
  · obtain ⟨o, ho, _⟩ := st.1
    exact ⟨o, ho⟩
  · obtain ⟨⟨o, ho, r⟩, ⟨ol, hol, rl⟩⟩ := st
    exact ⟨⟨o, hk it (by simp) o ho, r⟩, ⟨ol, hk l (by simp) ol hol, rl⟩⟩
  · refine nextT_item st.1 st.2 (x := items[i]) (by simp [hi]) fun h' hit' hs' => hQ _ h' s.toks (by simp [hi]) ⟨hit', ?_⟩ hs'
    obtain ⟨ol, hol, rl⟩ := st.2
    exact ⟨ol, hs'.extBut _ _ hne hol, rl⟩
theorem enumT_item {e it l : Addr} {i : Nat} {items : Array Value} {x old : Value} {Q : Option Value → Shared → Prop} (hh : A.handled = none)
    (he : IsEnum s.heap e it i old) (hit : s.heap.IsTupleIter it l i) (hl : s.heap.IsTuple l items) (hx : items[i]? = some x) (hne : e ≠ it) (hel : e ≠ l) (hli : l ≠ it)
    (hQ : ∀ h' tk, IsEnumOut h' e it ((i : Int) + 1) x s.heap.objs.size → h'.IsTupleIter it l (i + 1) → h'.get? s.heap.objs.size = some { cls := .type "tuple", data := .seq #[.int i tk, x] } →
      (∀ b o, b ≠ e → b ≠ it → s.heap.get? b = some o → h'.get? b = some o) → Q (some (.ref s.heap.objs.size)) { s with heap := h', toks := tk + 1 }) :
    wpAny (model prog w) A (pyNext (.ref e)) Q E s := by
  refine wpAny_pyNext_enum_itemD (drawsT (A := A.in1) hh it l hli items) he ⟨hit, hl⟩ (Array.getElem?_eq_some_iff.mp hx).1 hne (by simp [hne, hel]) fun y h' tk hy ho st ht _ hk => ?_
  have e1 : y = x := Option.some.inj (hy.symm.trans hx)
  subst e1
  exact hQ h' tk ho st.1 ht hk
theorem enumT_end {e it l : Addr} {items : Array Value} {i : Int} {old : Value} {Q : Option Value → Shared → Prop} (hh : A.handled = none) (hli : l ≠ it)
    (he : IsEnum s.heap e it i old) (hit : s.heap.IsTupleIter it l items.size) (hl : s.heap.IsTuple l items)
    (hQ : ∀ h', Heap.ExtBut it s.heap h' → Q none { s with heap := h' }) : wpAny (model prog w) A (pyNext (.ref e)) Q E s :=
  wpAny_pyNext_enum_endD (drawsT (A := A.in1) hh it l hli items) he ⟨hit, hl⟩ hQ
theorem enumT_new (l : Addr) (items : Array Value) (n : Nat) (dct : Option Addr) (sl : Array (Option Value)) :
    Meets (Builtin.«enumerate.__new__» ⟨[.type "enumerate", .ref l], []⟩) (fun _ R s => s.heap.get? l = some { cls := .type "tuple", dict := dct, data := .seq items n, slots := sl } ∧
      R (.ok (.ret (.ref (s.heap.push { cls := .type "tuple_iterator", data := .fields #[.ref l, .int 0 0] }).objs.size)))
        { s with heap := (s.heap.push { cls := .type "tuple_iterator", data := .fields #[.ref l, .int 0 0] }).push { cls := .type "enumerate", data := .fields #[.none, .bool false, .ref s.heap.objs.size, rawInt 0, .none, .none] } }) :=
  .of_wp fun prog w A R s h => by
    obtain ⟨hp, g, d, tk, os⟩ := s; obtain ⟨hl, h⟩ := h
    have hsub := sub_enumerate
    have hL : Heap.IsTuple (Shared.heap ⟨hp, g, d, tk, os⟩) l items := ⟨_, hl, rfl, n, rfl⟩
    wp_walk using wpAny_loadPart' hl
    refine wpAny_stack_any fun st => wpAny_pure ?_
    split
    · rename_i c _ _ _ _ _
      cases (c == Value.type "enumerate")
      · wp_walk using wpAny_loadPart' hl, wpAny_pyIter_tuple hL
        exact ⟨_, rfl, h⟩
      · wp_walk using wpAny_loadPart' hl, wpAny_pyIter_tuple hL
        exact ⟨_, rfl, h⟩
    · wp_walk using wpAny_loadPart' hl, wpAny_pyIter_tuple hL
      exact ⟨_, rfl, h⟩
theorem call_enumT {l : Addr} {items : Array Value} {Q : Value → Shared → Prop} (hL : s.heap.IsTuple l items)
    (h : ∀ h', IsEnum h' (s.heap.objs.size + 1) s.heap.objs.size 0 .none → h'.IsTupleIter s.heap.objs.size l 0 → h'.objs.size = s.heap.objs.size + 2 →
      (∀ b o, s.heap.get? b = some o → h'.get? b = some o) → Q (.ref (s.heap.objs.size + 1)) { s with heap := h' }) :
    wpAny (model prog w) A (call (.type "enumerate") [.ref l]) Q E s := by
  obtain ⟨⟨c, dct, dt, sl⟩, hl, hc, n, hd⟩ := hL
  replace hc : c = .type "tuple" := hc
  replace hd : dt = .seq items n := hd
  subst hc hd
  refine callType_new F.called_enumerate (by decide) (F.typeCall_enumerate_1 _) (F.newCall_enumerate_1 _) (fun obj => F.args_object_init_2 obj _) F.entry_enumerate_new (enumT_new l items n dct sl) ⟨hl, ?_⟩
  have hz : (s.heap.push { cls := .type "tuple_iterator", data := .fields #[.ref l, .int 0 0] }).objs.size = s.heap.objs.size + 1 := Heap.size_push ..
  show _ ∧ _
  rw [hz]
  have he : IsEnum ((s.heap.push { cls := .type "tuple_iterator", data := .fields #[.ref l, .int 0 0] }).push
      { cls := .type "enumerate", data := .fields #[.none, .bool false, .ref s.heap.objs.size, rawInt 0, .none, .none] }) (s.heap.objs.size + 1) s.heap.objs.size 0 .none := by
    have := Heap.get?_push_size (s.heap.push { cls := .type "tuple_iterator", data := .fields #[.ref l, .int 0 0] })
      (o := { cls := .type "enumerate", data := .fields #[.none, .bool false, .ref s.heap.objs.size, rawInt 0, .none, .none] }) rfl
    rw [hz] at this; exact this
  exact ⟨⟨_, he, rfl⟩, h _ he ⟨_, Heap.get?_push_of_some _ (Heap.get?_push_size _ rfl), rfl, rfl⟩ (by rw [Heap.size_push, hz]) fun b o x => Heap.get?_push_of_some _ (Heap.get?_push_of_some _ x)⟩
end
end Mine
-- part Loop53
set_option maxHeartbeats 1000000
namespace Mine
/-- a pair of the table: where it lies, its number, its sign -/
structure PRow where
  a : Addr
  b : Int
  tb : Tok
  c : Str
  tc : Tok
def RowsAt (h₀ : Heap) (tb : Addr) (rows : List PRow) : Prop :=
  IsTup h₀ tb (rows.map fun r => Value.ref r.a).toArray ∧ ∀ r ∈ rows, IsTup h₀ r.a #[.int r.b r.tb, .str r.c r.tc]
def pickC (rows : List PRow) (q : Int → Bool) (dflt : Str) : Str := match rows.find? (fun r => q r.b) with
  | some r => r.c
  | none => dflt
/-- the frame's map off the loop's own names -/
abbrev offM (stored : List Str) (u m : Str → Option Value) : Str → Option Value := fun z => if stored.contains z then u z else m z
theorem offM_eq {stored : List Str} {m m' : Str → Option Value} (h : ∀ z, stored.contains z = false → m' z = m z) : offM stored m' m = m' := by
  funext z
  show (if stored.contains z = true then m' z else m z) = m' z
  cases hz : stored.contains z with
  | true => rfl
  | false => exact (h z hz).symm
section
variable {prog : Program} {w : World} {A : Around} {E : Value → Shared → Prop} {s : Shared} {h₀ : Heap} {env : Env}
/-- a turn that goes on, or that leaves with one text more -/
def PickEnd (h₀ : Heap) (L : Addr) (s : Shared) (stored : List Str) (m : Str → Option Value) (D : Addr) (vs : List Value) (I : Addr) (oI : Obj) (news : List (Addr × Obj)) (q : Bool) (c : Str) (f : Flow) (s₃ : Shared) : Prop :=
  match f with
  | .ret _ => False
  | .brk => ∃ h' tk' m' t', s₃ = { s with heap := h', toks := tk' } ∧ q = true ∧ Fr h₀ L h' m' ∧ (∀ z, stored.contains z = false → m' z = m z) ∧ News h₀ L h' ((D, LCg.lst (vs ++ [.str c t'])) :: news)
  | _ => ∃ h' tk' m', s₃ = { s with heap := h', toks := tk' } ∧ q = false ∧ Fr h₀ L h' m' ∧ (∀ z, stored.contains z = false → m' z = m z) ∧ News h₀ L h' ((D, LCg.lst vs) :: (I, oI) :: news)
def ElseEnd (h₀ : Heap) (L : Addr) (s : Shared) (stored : List Str) (m : Str → Option Value) (D : Addr) (vs : List Value) (news : List (Addr × Obj)) (c : Str) (f : Flow) (s₃ : Shared) : Prop :=
  f = .next ∧ ∃ h' tk' m' t', s₃ = { s with heap := h', toks := tk' } ∧ Fr h₀ L h' m' ∧ (∀ z, stored.contains z = false → m' z = m z) ∧ News h₀ L h' ((D, LCg.lst (vs ++ [.str c t'])) :: news)
def PickSrc (prog : Program) (w : World) (A : Around) (E : Value → Shared → Prop) (h₀ : Heap) (env : Env) (target : Expr) (body orelse : List Stmt) (Q : Flow → Shared → Prop) (xv : Value) (s : Shared) : Prop :=
  ∃ (tb : Addr) (rows : List PRow) (m : Str → Option Value) (D : Addr) (vs : List Value) (news : List (Addr × Obj)) (stored : List Str) (q : Int → Bool) (dflt : Str),
    xv = .ref tb ∧ A.handled = none ∧ RowsAt h₀ tb rows ∧ Fr h₀ env.locals s.heap m ∧ News h₀ env.locals s.heap ((D, LCg.lst vs) :: news) ∧
    (∀ r ∈ rows, ∀ u h tk I oI, Fr h₀ env.locals h (offM stored u m) → News h₀ env.locals h ((D, LCg.lst vs) :: (I, oI) :: news) → (@Ne Nat D I) → IsTup h r.a #[.int r.b r.tb, .str r.c r.tc] →
      wpAny (model prog w) A (assign target env (.ref r.a)) (fun _ s₂ => wpAny (model prog w) A (execs body env) (PickEnd h₀ env.locals { s with heap := h, toks := tk } stored m D vs I oI news (q r.b) r.c) E s₂) E { s with heap := h, toks := tk }) ∧
    (∀ u h tk, Fr h₀ env.locals h (offM stored u m) → News h₀ env.locals h ((D, LCg.lst vs) :: news) →
      wpAny (model prog w) A (execs orelse env) (ElseEnd h₀ env.locals { s with heap := h, toks := tk } stored m D vs news dflt) E { s with heap := h, toks := tk }) ∧
    (∀ u h tk t', Fr h₀ env.locals h (offM stored u m) → News h₀ env.locals h ((D, LCg.lst (vs ++ [.str (pickC rows q dflt) t'])) :: news) → Q .next { s with heap := h, toks := tk })
theorem pick_find {rows : List PRow} {q : Int → Bool} {dflt : Str} {i : Nat} {r : PRow} (hr : rows[i]? = some r) (hq : q r.b = true) (hb : ∀ r ∈ rows.take i, q r.b = false) : pickC rows q dflt = r.c := by
  have e : rows.find? (fun r => q r.b) = some r := by
    induction rows generalizing i with
    | nil => simp at hr
    | cons x xs ih =>
      cases i with
      | zero =>
        have : x = r := by simpa using hr
        subst this
        simp [List.find?_cons, hq]
      | succ i =>
        have hx : q x.b = false := hb x (by simp)
        rw [List.find?_cons, hx]
        exact ih (i := i) (by simpa using hr) fun r' h' => hb r' (by simp [h'])
  unfold pickC
  rw [e]
theorem pick_none {rows : List PRow} {q : Int → Bool} {dflt : Str} (hb : ∀ r ∈ rows, q r.b = false) : pickC rows q dflt = dflt := by
  have e : rows.find? (fun r => q r.b) = none := by
    rw [List.find?_eq_none]
    intro r hr
    simp [hb r hr]
  unfold pickC
  rw [e]
theorem for_pick {target iter : Expr} {body orelse : List Stmt} {pos : Pos} {Q : Flow → Shared → Prop}
    (h : wpAny (model prog w) A (eval iter env) (PickSrc prog w A E h₀ env target body orelse Q) E s)
    (hs : ∀ x, foldedSetIterable iter env x = pure x) (hE : PassesOwn (model prog w) A env E) :
    wpAny (model prog w) A (exec (.For target iter body orelse pos) env) Q E s := by
  refine wpAny_For (wpAny_mono h (fun xv s₁ h₁ => ?_) fun _ _ e => e) hs
  obtain ⟨tb, rows, m, D, vs, news, stored, q, dflt, rfl, hh, hrows, F, N, turn, els, done⟩ := h₁
  obtain ⟨hT, hR⟩ := hrows
  have hTs : s₁.heap.IsTuple tb (rows.map fun r => Value.ref r.a).toArray := IsTup.keeps hT F.keep
  have hlt : tb < s₁.heap.objs.size := by obtain ⟨o, e, _⟩ := hTs; exact Heap.lt_size e
  have hne : tb ≠ s₁.heap.objs.size := Nat.ne_of_lt hlt
  have hLlt : env.locals < s₁.heap.objs.size := F.ns.lt
  have hDlt : D < s₁.heap.objs.size := Heap.lt_size (N _ (List.mem_cons_self ..)).1
  have hNlt : ∀ p ∈ news, p.1 < s₁.heap.objs.size := fun p hp => Heap.lt_size (N p (List.mem_cons_of_mem _ hp)).1
  have hI₀ : h₀.get? s₁.heap.objs.size = none := next_is_new F
  refine wpAny_pyIter_tuple hTs ?_
  generalize hIe : s₁.heap.objs.size = I at *
  have up : ∀ b o, s₁.heap.get? b = some o → (s₁.heap.push { cls := .type "tuple_iterator", data := .fields #[.ref tb, .int 0 0] }).get? b = some o := fun b o e => Heap.get?_push_of_some _ e
  have hin : ∀ {p}, p ∈ (D, LCg.lst vs) :: news → p.1 ≠ I := fun {p} hp => by
    rcases List.mem_cons.mp hp with rfl | hp
    · exact Nat.ne_of_lt hDlt
    · exact Nat.ne_of_lt (hNlt p hp)
  refine codeAny_forLoop_any
    (fun k s' => ∃ h' tk m' i, s' = { s₁ with heap := h', toks := tk } ∧ k = rows.length + 1 - i ∧ i ≤ rows.length ∧ h'.IsTupleIter I tb i ∧ Fr h₀ env.locals h' m' ∧ (∀ z, stored.contains z = false → m' z = m z) ∧
      News h₀ env.locals h' ((D, LCg.lst vs) :: news) ∧ ∀ r ∈ rows.take i, q r.b = false) ?_ (rows.length + 1)
    ⟨_, s₁.toks, m, 0, rfl, rfl, Nat.zero_le _, ⟨_, by rw [← hIe]; exact Heap.get?_push_size _ rfl, rfl, rfl⟩, F.keeps up, fun _ _ => rfl, N.grown up, by simp⟩
  rintro k s' ⟨h', tk, m', i, rfl, rfl, hi, hit, F', hm', N', hq⟩
  have hT' : h'.IsTuple tb (rows.map fun r => Value.ref r.a).toArray := IsTup.keeps hT F'.keep
  by_cases hlt' : i < rows.length
  · obtain ⟨r, hr⟩ : ∃ r, rows[i]? = some r := ⟨rows[i], by simp [hlt']⟩
    have hrm : r ∈ rows := List.mem_of_getElem? hr
    refine wpAny_pyNext_tuple_item hit hT' (x := .ref r.a) (by simp [hr]) fun h₁ hit₁ hs₁ => ?_
    refine letGo_tupleiter hit₁ ?_
    obtain ⟨oI, hoI, hoc, hod⟩ := id hit₁
    have keep₁ : ∀ b o, b ≠ I → h'.get? b = some o → h₁.get? b = some o := fun b o hb e => hs₁.extBut b o hb e
    have F₁ : Fr h₀ env.locals h₁ m' := ⟨F'.ns.at' fun o e => keep₁ _ o (Nat.ne_of_lt hLlt) e, fun b o e => keep₁ b o (fun hb => by rw [hb, hI₀] at e; cases e) (F'.keep b o e), F'.above⟩
    have N₁ : News h₀ env.locals h₁ ((D, LCg.lst vs) :: (I, oI) :: news) := fun p hp => by
      rcases List.mem_cons.mp hp with rfl | hp
      · have z := N' _ (List.mem_cons_self ..)
        exact ⟨keep₁ _ _ (Nat.ne_of_lt hDlt) z.1, z.2⟩
      · rcases List.mem_cons.mp hp with rfl | hp
        · exact ⟨hoI, Ne.symm (Nat.ne_of_lt hLlt), hI₀⟩
        · have z := N' p (List.mem_cons_of_mem _ hp)
          exact ⟨keep₁ _ _ (Nat.ne_of_lt (hNlt p hp)) z.1, z.2⟩
    have F₁' : Fr h₀ env.locals h₁ (offM stored m' m) := by rw [offM_eq hm']; exact F₁
    refine wpAny_mono (turn r hrm m' h₁ tk I oI F₁' N₁ (Nat.ne_of_lt hDlt) (IsTup.keeps (hR r hrm) F₁.keep)) (fun _ s₂ h₂ => ?_) hE
    refine wpAny_mono h₂ (fun f s₃ h₃ => ?_) hE
    have fin : PickEnd h₀ env.locals { s₁ with heap := h₁, toks := tk } stored m D vs I oI news (q r.b) r.c .next s₃ →
        ∃ k', k' < rows.length + 1 - i ∧ ∃ h' tk m' i, s₃ = { s₁ with heap := h', toks := tk } ∧ k' = rows.length + 1 - i ∧ i ≤ rows.length ∧ h'.IsTupleIter I tb i ∧ Fr h₀ env.locals h' m' ∧ (∀ z, stored.contains z = false → m' z = m z) ∧
          News h₀ env.locals h' ((D, LCg.lst vs) :: news) ∧ ∀ r ∈ rows.take i, q r.b = false := by
      rintro ⟨h₄, tk₄, m₄, rfl, hq₄, F₄, hm₄, N₄⟩
      refine ⟨rows.length + 1 - (i + 1), by omega, h₄, tk₄, m₄, i + 1, rfl, rfl, hlt', ⟨oI, (N₄ (I, oI) (List.mem_cons_of_mem _ (List.mem_cons_self ..))).1, hoc, hod⟩, F₄, hm₄, fun p hp => ?_, fun r' hr' => ?_⟩
      · rcases List.mem_cons.mp hp with rfl | hp
        · exact N₄ _ (List.mem_cons_self ..)
        · exact N₄ p (List.mem_cons_of_mem _ (List.mem_cons_of_mem _ hp))
      · rw [List.take_add_one, hr] at hr'
        rcases List.mem_append.mp hr' with h5 | h5
        · exact hq r' h5
        · have : r' = r := by simpa using h5
          subst this; exact hq₄
    cases f with
    | ret v => exact h₃.elim
    | brk =>
      obtain ⟨h₄, tk₄, m₄, t', rfl, hq₄, F₄, hm₄, N₄⟩ := h₃
      have F₄' : Fr h₀ env.locals h₄ (offM stored m₄ m) := by rw [offM_eq hm₄]; exact F₄
      exact done m₄ h₄ tk₄ t' F₄' (by rw [pick_find hr hq₄ hq]; exact N₄)
    | next => exact fin h₃
    | cont => exact fin h₃
  · have hin' : i = rows.length := by omega
    subst hin'
    rw [List.take_length] at hq
    refine wpAny_pyNext_tuple_end hh hit hT' (by simp) fun h₁ hs₁ => ?_
    have keep₁ : ∀ b o, b ≠ I → h'.get? b = some o → h₁.get? b = some o := fun b o hb e => hs₁ b o hb e
    have F₁ : Fr h₀ env.locals h₁ m' := ⟨F'.ns.at' fun o e => keep₁ _ o (Nat.ne_of_lt hLlt) e, fun b o e => keep₁ b o (fun hb => by rw [hb, hI₀] at e; cases e) (F'.keep b o e), F'.above⟩
    have N₁ : News h₀ env.locals h₁ ((D, LCg.lst vs) :: news) := fun p hp => ⟨keep₁ _ _ (hin hp) (N' p hp).1, (N' p hp).2⟩
    have F₁' : Fr h₀ env.locals h₁ (offM stored m' m) := by rw [offM_eq hm']; exact F₁
    refine wpAny_mono (els m' h₁ tk F₁' N₁) (fun f s₃ h₃ => ?_) hE
    obtain ⟨rfl, h₄, tk₄, m₄, t', rfl, F₄, hm₄, N₄⟩ := h₃
    have F₄' : Fr h₀ env.locals h₄ (offM stored m₄ m) := by rw [offM_eq hm₄]; exact F₄
    exact done m₄ h₄ tk₄ t' F₄' (by rw [pick_none hq]; exact N₄)
end
end Mine
-- part Loop53b
set_option maxHeartbeats 1000000
namespace Mine
def TabsOf (h₀ : Heap) (l : Addr) (tabs : List (Addr × List PRow)) : Prop :=
  IsTup h₀ l (tabs.map fun p => Value.ref p.1).toArray ∧ ∀ p ∈ tabs, RowsAt h₀ p.1 p.2
def outTexts (cs : Nat → List PRow → Str) (tabs : List (Addr × List PRow)) : List Str := tabs.zipIdx.map fun p => cs p.2 p.1.2
theorem outTexts_get {cs : Nat → List PRow → Str} {tabs : List (Addr × List PRow)} {i : Nat} {tb : Addr} {rows : List PRow} (h : tabs[i]? = some (tb, rows)) : (outTexts cs tabs)[i]? = some (cs i rows) := by
  simp [outTexts, h]
theorem outTexts_len (cs : Nat → List PRow → Str) (tabs : List (Addr × List PRow)) : (outTexts cs tabs).length = tabs.length := by simp [outTexts]
section
variable {prog : Program} {w : World} {A : Around} {E : Value → Shared → Prop} {s : Shared} {h₀ : Heap} {env : Env}
def OuterEnd (h₀ : Heap) (L : Addr) (s : Shared) (stored : List Str) (m : Str → Option Value) (D : Addr) (vs : List Value) (e : Addr) (oe : Obj) (it : Addr) (oi : Obj) (news : List (Addr × Obj)) (c : Str) (f : Flow) (s₃ : Shared) : Prop :=
  match f with
  | .ret _ => False
  | .brk => False
  | _ => ∃ h' tk' m' t', s₃ = { s with heap := h', toks := tk' } ∧ Fr h₀ L h' m' ∧ (∀ z, stored.contains z = false → m' z = m z) ∧ News h₀ L h' ((D, LCg.lst (vs ++ [.str c t'])) :: (e, oe) :: (it, oi) :: news)
def OuterSrc (prog : Program) (w : World) (A : Around) (E : Value → Shared → Prop) (h₀ : Heap) (env : Env) (elts : List Expr) (kk : Nat) (tpos : Pos) (body : List Stmt) (Q : Flow → Shared → Prop) (xv : Value) (s : Shared) : Prop :=
  ∃ (e it l : Addr) (tabs : List (Addr × List PRow)) (m : Str → Option Value) (D : Addr) (news : List (Addr × Obj)) (stored : List Str) (cs : Nat → List PRow → Str),
    xv = .ref e ∧ A.handled = none ∧ IsEnum s.heap e it 0 .none ∧ s.heap.IsTupleIter it l 0 ∧ e ≠ it ∧ TabsOf h₀ l tabs ∧ Fr h₀ env.locals s.heap m ∧ News h₀ env.locals s.heap ((D, LCg.lst []) :: news) ∧
    (∀ p ∈ (D, LCg.lst []) :: news, p.1 ≠ e ∧ p.1 ≠ it) ∧ env.locals ≠ e ∧ env.locals ≠ it ∧ h₀.get? e = none ∧ h₀.get? it = none ∧ tabs.length ≤ 100 ∧
    (∀ (i : Nat) (tb : Addr) (rows : List PRow), tabs[i]? = some (tb, rows) → ∀ u h tk T t vs oe oi, vs.length ≤ 100 → IsTup h T #[.int (i : Int) t, .ref tb] → RowsAt h₀ tb rows → Fr h₀ env.locals h (offM stored u m) → News h₀ env.locals h ((D, LCg.lst vs) :: (e, oe) :: (it, oi) :: news) →
      ((@Ne Nat D e) ∧ (@Ne Nat D it) ∧ (@Ne Nat e it)) →
      wpAny (model prog w) A (assign (.Tuple elts kk tpos) env (.ref T)) (fun _ s₂ => wpAny (model prog w) A (execs body env) (OuterEnd h₀ env.locals { s with heap := h, toks := tk } stored m D vs e oe it oi news (cs i rows)) E s₂) E { s with heap := h, toks := tk }) ∧
    (∀ u h tk vs, StrsAre vs (outTexts cs tabs) → Fr h₀ env.locals h (offM stored u m) → News h₀ env.locals h ((D, LCg.lst vs) :: news) → Q .next { s with heap := h, toks := tk })
theorem for_outer {elts : List Expr} {kk : Nat} {tpos : Pos} {iter : Expr} {body : List Stmt} {pos : Pos} {Q : Flow → Shared → Prop}
    (h : wpAny (model prog w) A (eval iter env) (OuterSrc prog w A E h₀ env elts kk tpos body Q) E s)
    (hs : ∀ x, foldedSetIterable iter env x = pure x) (hE : PassesOwn (model prog w) A env E) :
    wpAny (model prog w) A (exec (.For (.Tuple elts kk tpos) iter body [] pos) env) Q E s := by
  refine wpAny_For (wpAny_mono h (fun xv s₁ h₁ => ?_) fun _ _ e => e) hs
  obtain ⟨e, it, l, tabs, m, D, news, stored, cs, rfl, hh, hEn, hIt, hei, ⟨hT, hTb⟩, F, N, off, hLe, hLi, he₀, hi₀, hfew, turn, done⟩ := h₁
  refine wpAny_pyIter_enum hEn ?_
  refine codeAny_forLoop_any
    (fun k s' => ∃ h' tk m' i vs old, s' = { s₁ with heap := h', toks := tk } ∧ k = tabs.length + 1 - i ∧ i ≤ tabs.length ∧ IsEnum h' e it ((i : Nat) : Int) old ∧ h'.IsTupleIter it l i ∧ Fr h₀ env.locals h' m' ∧ (∀ z, stored.contains z = false → m' z = m z) ∧
      News h₀ env.locals h' ((D, LCg.lst vs) :: news) ∧ StrsAre vs ((outTexts cs tabs).take i)) ?_ (tabs.length + 1)
    ⟨_, s₁.toks, m, 0, [], _, rfl, rfl, Nat.zero_le _, hEn, hIt, F, fun _ _ => rfl, N, .nil⟩
  rintro k s' ⟨h', tk, m', i, vs, old, rfl, rfl, hi, hen, hit, F', hm', N', hvs⟩
  have hT' : h'.IsTuple l (tabs.map fun p => Value.ref p.1).toArray := IsTup.keeps hT F'.keep
  have hle : e ≠ l := fun x => by obtain ⟨o, ho, _⟩ := hT; rw [← x, he₀] at ho; cases ho
  have hli : l ≠ it := fun x => by obtain ⟨o, ho, _⟩ := hT; rw [x, hi₀] at ho; cases ho
  have hDe : D ≠ e ∧ D ≠ it := off (D, LCg.lst []) (List.mem_cons_self ..)
  have hoff : ∀ {p}, p ∈ (D, LCg.lst vs) :: news → p.1 ≠ e ∧ p.1 ≠ it := fun {p} hp => by
    rcases List.mem_cons.mp hp with rfl | hp
    · exact hDe
    · exact off p (List.mem_cons_of_mem _ hp)
  have next : ∀ h₁ : Heap, (∀ b o, b ≠ e → b ≠ it → h'.get? b = some o → h₁.get? b = some o) → Fr h₀ env.locals h₁ m' ∧ News h₀ env.locals h₁ ((D, LCg.lst vs) :: news) := fun h₁ hk =>
    ⟨⟨F'.ns.at' fun o x => hk _ o hLe hLi x, fun b o x => hk b o (fun hb => by rw [hb, he₀] at x; cases x) (fun hb => by rw [hb, hi₀] at x; cases x) (F'.keep b o x), F'.above⟩,
      fun p hp => ⟨hk _ _ (hoff hp).1 (hoff hp).2 (N' p hp).1, (N' p hp).2⟩⟩
  by_cases hlt' : i < tabs.length
  · obtain ⟨⟨tb, rows⟩, hr⟩ : ∃ r, tabs[i]? = some r := ⟨tabs[i], by simp [hlt']⟩
    refine enumT_item hh hen hit hT' (x := .ref tb) (by simp [hr]) hei hle hli fun h₁ tk₁ hout hit₁ htup hk₁ => ?_
    refine wpAny_letOwnedTupleGo_enum hout fun h₂ hen₂ hs₂ => ?_
    have hTne : h'.objs.size ≠ e := Nat.ne_of_gt (Heap.lt_size hen)
    have hit₂ : h₂.IsTupleIter it l (i + 1) := hit₁.extBut hs₂.extBut (Ne.symm hei)
    obtain ⟨oi, hoi, hoc, hod⟩ := id hit₂
    obtain ⟨F₂, N₂⟩ := next h₂ fun b o hb hb' x => hs₂.extBut b o hb (hk₁ b o hb hb' x)
    obtain ⟨oe, hen₂', hoe⟩ : ∃ oe, h₂.get? e = some oe ∧ ∀ h : Heap, h.get? e = some oe → IsEnum h e it ((i + 1 : Nat) : Int) (.ref tb) := ⟨_, hen₂, fun h x => by rw [show ((i + 1 : Nat) : Int) = (i : Int) + 1 from by omega]; exact x⟩
    have N₃ : News h₀ env.locals h₂ ((D, LCg.lst vs) :: (e, oe) :: (it, oi) :: news) := fun p hp => by
      rcases List.mem_cons.mp hp with rfl | hp
      · exact N₂ _ (List.mem_cons_self ..)
      · rcases List.mem_cons.mp hp with rfl | hp
        · exact ⟨hen₂', Ne.symm hLe, he₀⟩
        · rcases List.mem_cons.mp hp with rfl | hp
          · exact ⟨hoi, Ne.symm hLi, hi₀⟩
          · exact N₂ p (List.mem_cons_of_mem _ hp)
    have F₂' : Fr h₀ env.locals h₂ (offM stored m' m) := by rw [offM_eq hm']; exact F₂
    refine wpAny_mono (turn i tb rows hr m' h₂ _ h'.objs.size tk₁ vs oe oi (by rw [hvs.length, List.length_take, outTexts_len]; omega) ⟨_, hs₂.extBut _ _ hTne htup, rfl, _, rfl⟩ (hTb (tb, rows) (List.mem_of_getElem? hr)) F₂' N₃ ⟨hDe.1, hDe.2, hei⟩) (fun _ s₂ h₂' => ?_) hE
    refine wpAny_mono h₂' (fun f s₃ h₃ => ?_) hE
    have fin : OuterEnd h₀ env.locals { s₁ with heap := h₂, toks := tk₁ + 1 } stored m D vs e oe it oi news (cs i rows) .next s₃ →
        ∃ k', k' < tabs.length + 1 - i ∧ ∃ h' tk m' i vs old, s₃ = { s₁ with heap := h', toks := tk } ∧ k' = tabs.length + 1 - i ∧ i ≤ tabs.length ∧ IsEnum h' e it ((i : Nat) : Int) old ∧ h'.IsTupleIter it l i ∧ Fr h₀ env.locals h' m' ∧ (∀ z, stored.contains z = false → m' z = m z) ∧
          News h₀ env.locals h' ((D, LCg.lst vs) :: news) ∧ StrsAre vs ((outTexts cs tabs).take i) := by
      rintro ⟨h₄, tk₄, m₄, t', rfl, F₄, hm₄, N₄⟩
      refine ⟨tabs.length + 1 - (i + 1), by omega, h₄, tk₄, m₄, i + 1, vs ++ [.str (cs i rows) t'], .ref tb, rfl, rfl, hlt', ?_, ⟨oi, (N₄ (it, oi) (List.mem_cons_of_mem _ (List.mem_cons_of_mem _ (List.mem_cons_self ..)))).1, hoc, hod⟩, F₄, hm₄, fun p hp => ?_, ?_⟩
      · exact hoe h₄ (N₄ (e, oe) (List.mem_cons_of_mem _ (List.mem_cons_self ..))).1
      · rcases List.mem_cons.mp hp with rfl | hp
        · exact N₄ _ (List.mem_cons_self ..)
        · exact N₄ p (List.mem_cons_of_mem _ (List.mem_cons_of_mem _ (List.mem_cons_of_mem _ hp)))
      · rw [List.take_add_one, outTexts_get hr]
        exact StrsAre.append' hvs (.cons _ t' .nil)
    cases f with
    | ret v => exact h₃.elim
    | brk => exact h₃.elim
    | next => exact fin h₃
    | cont => exact fin h₃
  · have hin' : i = tabs.length := by omega
    subst hin'
    refine enumT_end hh hli hen (by simpa using hit) hT' fun h₁ hs₁ => wpAny_execs_nil ?_
    obtain ⟨F₁, N₁⟩ := next h₁ fun b o _ hb' x => hs₁ b o hb' x
    have F₁' : Fr h₀ env.locals h₁ (offM stored m' m) := by rw [offM_eq hm']; exact F₁
    rw [← outTexts_len cs tabs, List.take_length] at hvs
    exact done m' h₁ tk vs hvs F₁' N₁
/-- the call of enumerate upon a tuple of the ground -/
theorem call_enumO {L l : Addr} {items : Array Value} {m : Str → Option Value} {news : List (Addr × Obj)} {Q : Value → Shared → Prop} (F : Fr h₀ L s.heap m) (N : News h₀ L s.heap news) (hL : IsTup h₀ l items)
    (h : ∀ h' e it, IsEnum h' e it 0 .none → h'.IsTupleIter it l 0 → e ≠ it → Fr h₀ L h' m → News h₀ L h' news → (∀ p ∈ news, p.1 ≠ e ∧ p.1 ≠ it) → L ≠ e → L ≠ it → h₀.get? e = none → h₀.get? it = none → Q (.ref e) { s with heap := h' }) :
    wpAny (model prog w) A (call (.type "enumerate") [.ref l]) Q E s := by
  refine call_enumT (IsTup.keeps hL F.keep) fun h' he hit hsz hk => ?_
  have hL' : L < s.heap.objs.size := F.ns.lt
  have new : ∀ b, s.heap.objs.size ≤ b → h₀.get? b = none := fun b hb => by
    cases q : h₀.get? b with
    | none => rfl
    | some o => exact absurd (Heap.lt_size (F.keep b o q)) (Nat.not_lt.mpr hb)
  refine h h' _ _ he hit (Nat.succ_ne_self _) (F.keeps hk) (N.grown hk) (fun p hp => ?_) (Nat.ne_of_lt (Nat.lt_succ_of_lt hL')) (Nat.ne_of_lt hL') (new _ (Nat.le_succ _)) (new _ (Nat.le_refl _))
  have := Heap.lt_size (N p hp).1
  exact ⟨Nat.ne_of_lt (Nat.lt_succ_of_lt this), Nat.ne_of_lt this⟩
end
end Mine
-- part Bits53
set_option maxHeartbeats 1000000
namespace Mine
theorem ifmt {w : World} {mean : ExcName → Option Value} {mg mb : Str → Option Value} (mode : Int) (t : Tok)
  (dp un : Nat) (gd : Option (List Code)) (cn : Str) (cs : Scope) (a : Addr) (ccd : Value) (cl : List (Str × Addr)) (outer : List Env) (A₀ : Around) (base h₀ : Heap) (L : Addr) (m : Str → Option Value) (s : Shared) (Q E : Value → Shared → Prop)
  (B : Below A₀ base outer h₀) (F : Fr h₀ L s.heap m) (X : (hd.heap_39 w.params).In h₀) (T : Top topProg (looseW hd.view_39 [Str.ofString "_initial_missing", Str.ofString "reduce", Str.ofString "_filemode_table"] ++ List.map (fun x => x.name) (recsOf hd.view_39) ++ List.map (fun x => x.fst) (litsOf hd.view_39) ++ List.map (fun x => x.name) (clssOf hd.view_39 (looseW hd.view_39 [Str.ofString "_initial_missing", Str.ofString "reduce", Str.ofString "_filemode_table"]))) mean mg mb h₀) (hk : cs.kind = .function)
  (hdp : dp + 1 < recursionLimit) (hun : un + 8 < cLine)
  (hQ : ∀ t' h' tk', s.heap.StaysIn h' → Q (.int (Builtin.bitAnd mode 61440) t') { s with heap := h', toks := tk' }) :
  wpAny (model PySem.Challenge.rw_nq0053_01.prog w) (ktrTop dp un gd cn cs L a ccd cl outer) (call (.ref 44) [.int mode t]) Q E s := by
  w_top off
  k_with_none
  refine wpAny_call ?_
  revert X
  k_fill
  intro X
  (refine' code_pure ?k1 ?k2 ?k3 ?k5 ?kA ?kF ?kK ?k6 ?k7 ?k8 ?k9 ?kB ?_ ?c2 ?c3 ?c4 ?c5; (case kA => exact rfl); (case kF => exact rfl); (case kK => assumption); (case k1 => k_asm); (case k2 => k_asm); (case k3 => k_asm); (case k5 => k_asm); (case k6 => k_is); (case k7 => k_is); (case k8 => ktr_room); (case k9 => exact BindsTo.of_eq rfl); (case c5 => decide); (case kB => exact locs rfl); (case c2 => exact rfl); (case c3 => exact rfl); (case c4 => exact rfl); k_whole; intro L' h' F' N' B' X' T'; (try dsimp only); (try k_lift B'); (try k_fold))
  repeat' (first | (k_unfold; (try dsimp only)) | walk1 | (dsimp only; walk1))
  all_goals exact hQ _ _ _ (by assumption)
theorem imode {w : World} {mean : ExcName → Option Value} {mg mb : Str → Option Value} (mode : Int) (t : Tok)
  (dp un : Nat) (gd : Option (List Code)) (cn : Str) (cs : Scope) (a : Addr) (ccd : Value) (cl : List (Str × Addr)) (outer : List Env) (A₀ : Around) (base h₀ : Heap) (L : Addr) (m : Str → Option Value) (s : Shared) (Q E : Value → Shared → Prop)
  (B : Below A₀ base outer h₀) (F : Fr h₀ L s.heap m) (X : (hd.heap_39 w.params).In h₀) (T : Top topProg (looseW hd.view_39 [Str.ofString "_initial_missing", Str.ofString "reduce", Str.ofString "_filemode_table"] ++ List.map (fun x => x.name) (recsOf hd.view_39) ++ List.map (fun x => x.fst) (litsOf hd.view_39) ++ List.map (fun x => x.name) (clssOf hd.view_39 (looseW hd.view_39 [Str.ofString "_initial_missing", Str.ofString "reduce", Str.ofString "_filemode_table"]))) mean mg mb h₀) (hk : cs.kind = .function)
  (hdp : dp + 1 < recursionLimit) (hun : un + 8 < cLine)
  (hQ : ∀ t' h' tk', s.heap.StaysIn h' → Q (.int (Builtin.bitAnd mode 4095) t') { s with heap := h', toks := tk' }) :
  wpAny (model PySem.Challenge.rw_nq0053_01.prog w) (ktrTop dp un gd cn cs L a ccd cl outer) (call (.ref 37) [.int mode t]) Q E s := by
  w_top off
  k_with_none
  refine wpAny_call ?_
  revert X
  k_fill
  intro X
  (refine' code_pure ?k1 ?k2 ?k3 ?k5 ?kA ?kF ?kK ?k6 ?k7 ?k8 ?k9 ?kB ?_ ?c2 ?c3 ?c4 ?c5; (case kA => exact rfl); (case kF => exact rfl); (case kK => assumption); (case k1 => k_asm); (case k2 => k_asm); (case k3 => k_asm); (case k5 => k_asm); (case k6 => k_is); (case k7 => k_is); (case k8 => ktr_room); (case k9 => exact BindsTo.of_eq rfl); (case c5 => decide); (case kB => exact locs rfl); (case c2 => exact rfl); (case c3 => exact rfl); (case c4 => exact rfl); k_whole; intro L' h' F' N' B' X' T'; (try dsimp only); (try k_lift B'); (try k_fold))
  repeat' (first | (k_unfold; (try dsimp only)) | walk1 | (dsimp only; walk1))
  all_goals exact hQ _ _ _ (by assumption)
end Mine
-- part Fmode
set_option maxHeartbeats 4000000
namespace Mine
def tabs53 : List (Addr × List PRow) := [
  (52, [⟨45, 40960, 240, Str.ofString "l", 268⟩, ⟨46, 49152, 242, Str.ofString "s", 269⟩, ⟨47, 32768, 236, Str.ofString "-", 270⟩, ⟨48, 24576, 234, Str.ofString "b", 271⟩, ⟨49, 16384, 230, Str.ofString "d", 272⟩, ⟨50, 8192, 232, Str.ofString "c", 273⟩, ⟨51, 4096, 238, Str.ofString "p", 274⟩]),
  (54, [⟨53, 256, 250, Str.ofString "r", 275⟩]),
  (56, [⟨55, 128, 252, Str.ofString "w", 276⟩]),
  (60, [⟨57, 2112, 277, Str.ofString "s", 278⟩, ⟨58, 2048, 244, Str.ofString "S", 279⟩, ⟨59, 64, 254, Str.ofString "x", 280⟩]),
  (62, [⟨61, 32, 256, Str.ofString "r", 281⟩]),
  (64, [⟨63, 16, 258, Str.ofString "w", 282⟩]),
  (68, [⟨65, 1032, 283, Str.ofString "s", 284⟩, ⟨66, 1024, 246, Str.ofString "S", 285⟩, ⟨67, 8, 260, Str.ofString "x", 286⟩]),
  (70, [⟨69, 4, 262, Str.ofString "r", 287⟩]),
  (72, [⟨71, 2, 264, Str.ofString "w", 288⟩]),
  (76, [⟨73, 513, 289, Str.ofString "t", 290⟩, ⟨74, 512, 248, Str.ofString "T", 291⟩, ⟨75, 1, 266, Str.ofString "x", 292⟩])]
theorem isTupK {K : Frag} {h : Heap} (X : K.In h) {a : Addr} {o : Obj} {items : Array Value} {n : Nat} (e : K.lookup a = some o) (hc : o.cls = .type "tuple") (hd : o.data = .seq items n) : IsTup h a items := ⟨o, X a o e, hc, n, hd⟩
theorem tabs_at {w : World} {h : Heap} (X : (hd.heap_39 w.params).In h) : TabsOf h 77 tabs53 := by
  refine ⟨isTupK X (o := _) rfl rfl rfl, ?_⟩
  simp only [tabs53, List.forall_mem_cons, List.not_mem_nil, false_implies, implies_true, and_true, RowsAt]
  refine ⟨⟨isTupK X (o := _) rfl rfl rfl, ?_⟩, ⟨isTupK X (o := _) rfl rfl rfl, ?_⟩, ⟨isTupK X (o := _) rfl rfl rfl, ?_⟩, ⟨isTupK X (o := _) rfl rfl rfl, ?_⟩, ⟨isTupK X (o := _) rfl rfl rfl, ?_⟩, ⟨isTupK X (o := _) rfl rfl rfl, ?_⟩, ⟨isTupK X (o := _) rfl rfl rfl, ?_⟩, ⟨isTupK X (o := _) rfl rfl rfl, ?_⟩, ⟨isTupK X (o := _) rfl rfl rfl, ?_⟩, ⟨isTupK X (o := _) rfl rfl rfl, ?_⟩⟩
  all_goals (repeat' (first | exact isTupK X (o := _) rfl rfl rfl | refine And.intro ?_ ?_))
def qf (mode : Int) (i : Nat) (b : Int) : Bool := if i = 0 then decide (Builtin.bitAnd mode 61440 = b) else decide (Builtin.bitAnd mode b = b)
def fmD (i : Nat) : Str := if i = 0 then Str.ofString "?" else Str.ofString "-"
def fmC (mode : Int) (i : Nat) (rows : List PRow) : Str := pickC rows (qf mode i) (fmD i)
set_option hygiene false in
local macro_rules | `(tactic| walk_at "exec For Tuple Call cons nil") => `(tactic| (k_here; k_dflt (refine for_outer (h₀ := s.heap) ?_ (by intro _; rfl) (by with_unfolding_all passes_own))))
set_option hygiene false in
local macro_rules | `(tactic| walk_at "exec For Tuple Name cons cons") => `(tactic| (k_here; k_dflt (refine for_pick (h₀ := s.heap) ?_ (by intro _; rfl) (by with_unfolding_all passes_own))))
set_option hygiene false in
local macro_rules | `(tactic| walk_at "call type:enumerate") => `(tactic| (k_here; k_dflt (refine call_enumO (by k_asm) (by k_asm) (tabs_at X').1 ?_); intro h5 e5 it5 hE5 hI5 hei5 F5 N5 off5 hLe5 hLi5 he05 hi05))
set_option hygiene false in
local macro_rules | `(tactic| walk_at "OuterSrc") => `(tactic| (k_here; k_dflt (refine ⟨e5, it5, 77, tabs53, _, _, _, [Str.ofString "index", Str.ofString "table", Str.ofString "bit", Str.ofString "char"], fmC mode, rfl, rfl, hE5, hI5, hei5, tabs_at X', F5, N5, off5, hLe5, hLi5, he05, hi05, (by decide), ?_, ?_⟩); (case' refine_1 => (intro i6 tb6 rows6 hr6 u6 h6 tk6 T6 t6 vs6 oe6 oi6 hv6 hT6 hR6 F6 N6 ne6; rcases Nat.eq_zero_or_pos i6 with hi6 | hi6; (have hz6 : ((i6 : Nat) : Int) = 0 := by omega); (have hd6 : (((i6 : Nat) : Int) == 0) = true := beq_iff_eq.mpr hz6); rotate_left; (have hz6 : ¬ ((i6 : Nat) : Int) = 0 := by omega); (have hd6 : (((i6 : Nat) : Int) == 0) = false := beq_eq_false_iff_ne.mpr hz6))); (case' refine_2 => intro u7 h7 tk7 vs7 hS7 F7 N7)))
section
variable {h₀ : Heap} {L : Addr} {s : Shared} {stored : List Str} {m m' : Str → Option Value} {D : Addr} {vs : List Value} {I e it : Addr} {oI oe oi : Obj} {news all : List (Addr × Obj)} {q : Bool} {c : Str} {h' : Heap} {tk' : Nat} {t' : Tok}
theorem pick_brk (hq : q = true) (F : Fr h₀ L h' m') (ag : ∀ z, stored.contains z = false → m' z = m z) (N : News h₀ L h' all) (hD : (D, LCg.lst (vs ++ [.str c t'])) ∈ all) (hn : ∀ p ∈ news, p ∈ all) :
    PickEnd h₀ L s stored m D vs I oI news q c .brk { s with heap := h', toks := tk' } :=
  ⟨h', tk', m', t', rfl, hq, F, ag, fun p hp => by
    rcases List.mem_cons.mp hp with rfl | hp
    · exact N _ hD
    · exact N p (hn p hp)⟩
theorem pick_next (hq : q = false) (F : Fr h₀ L h' m') (ag : ∀ z, stored.contains z = false → m' z = m z) (N : News h₀ L h' all) (hn : ∀ p ∈ (D, LCg.lst vs) :: (I, oI) :: news, p ∈ all) :
    PickEnd h₀ L s stored m D vs I oI news q c .next { s with heap := h', toks := tk' } :=
  ⟨h', tk', m', rfl, hq, F, ag, fun p hp => N p (hn p hp)⟩
theorem else_end' {c' : Str} (hc : c' = c) (F : Fr h₀ L h' m') (ag : ∀ z, stored.contains z = false → m' z = m z) (N : News h₀ L h' all) (hD : (D, W.listOf (vs.toArray.push (.str c' t')) (vs.length + 1)) ∈ all) (hn : ∀ p ∈ news, p ∈ all) :
    ElseEnd h₀ L s stored m D vs news c .next { s with heap := h', toks := tk' } := by
  subst hc
  have e : W.listOf (vs.toArray.push (.str c' t')) (vs.length + 1) = LCg.lst (vs ++ [.str c' t']) := LCg.lst_snoc vs _
  rw [e] at hD
  exact ⟨rfl, h', tk', m', t', rfl, F, ag, fun p hp => by
    rcases List.mem_cons.mp hp with rfl | hp
    · exact N _ hD
    · exact N p (hn p hp)⟩
theorem pick_brk' (hq : q = true) (F : Fr h₀ L h' m') (ag : ∀ z, stored.contains z = false → m' z = m z) (N : News h₀ L h' all) (hD : (D, W.listOf (vs.toArray.push (.str c t')) (vs.length + 1)) ∈ all) (hn : ∀ p ∈ news, p ∈ all) :
    PickEnd h₀ L s stored m D vs I oI news q c .brk { s with heap := h', toks := tk' } := by
  have e : W.listOf (vs.toArray.push (.str c t')) (vs.length + 1) = LCg.lst (vs ++ [.str c t']) := LCg.lst_snoc vs _
  rw [e] at hD
  exact pick_brk hq F ag N hD hn
theorem else_end (F : Fr h₀ L h' m') (ag : ∀ z, stored.contains z = false → m' z = m z) (N : News h₀ L h' all) (hD : (D, LCg.lst (vs ++ [.str c t'])) ∈ all) (hn : ∀ p ∈ news, p ∈ all) :
    ElseEnd h₀ L s stored m D vs news c .next { s with heap := h', toks := tk' } :=
  ⟨rfl, h', tk', m', t', rfl, F, ag, fun p hp => by
    rcases List.mem_cons.mp hp with rfl | hp
    · exact N _ hD
    · exact N p (hn p hp)⟩
theorem outer_end (F : Fr h₀ L h' m') (ag : ∀ z, stored.contains z = false → m' z = m z) (N : News h₀ L h' all) (hD : (D, LCg.lst (vs ++ [.str c t'])) ∈ all) (hn : ∀ p ∈ (e, oe) :: (it, oi) :: news, p ∈ all) :
    OuterEnd h₀ L s stored m D vs e oe it oi news c .next { s with heap := h', toks := tk' } :=
  ⟨h', tk', m', t', rfl, F, ag, fun p hp => by
    rcases List.mem_cons.mp hp with rfl | hp
    · exact N _ hD
    · exact N p (hn p hp)⟩
end
set_option hygiene false in
local macro_rules | `(tactic| walk_at "PickSrc") => `(tactic| (k_here; k_dflt (refine ⟨_, rows6, _, _, vs6, _, [Str.ofString "bit", Str.ofString "char"], qf mode i6, fmD i6, rfl, rfl, hR6, by k_asm, by k_asm, ?_, ?_, ?_⟩); (case' refine_1 => intro r8 hr8 u8 h8 tk8 I8 o8 F8 N8 ne8 hT8); (case' refine_2 => intro u8 h8 tk8 F8 N8); (case' refine_3 => intro u8 h8 tk8 t8 F8 N8)))
local macro_rules | `(tactic| walk_at "same53") => `(tactic| (intro z h3; (simp only [List.contains_cons, List.contains_nil, Bool.or_false, Bool.or_eq_false_iff, beq_eq_false_iff_ne, ne_eq] at h3); (simp [offM, h3]; done)))
set_option hygiene false in
local macro_rules | `(tactic| walk_at "OuterEnd") => `(tactic| (k_dflt (refine outer_end (by exact F8) (by walk_at "same53") (by exact N8) (by exact List.Mem.head _) (by kcf_all))))
set_option hygiene false in
local macro_rules | `(tactic| walk_at "ElseEnd") => `(tactic| (k_dflt (refine else_end' (by unfold fmD; first | exact (if_pos hi6).symm | exact (if_neg (by omega)).symm) (by assumption) (by walk_at "same53") (by assumption) (List.Mem.head _) (by kcf_all))))
set_option hygiene false in
local macro_rules | `(tactic| walk_at "PickEnd") => `(tactic| (k_dflt (first
  | (refine pick_brk' (by unfold qf; first | (rw [if_pos hi6]; exact decide_eq_true (by assumption)) | (rw [if_neg (by omega)]; exact decide_eq_true (by assumption))) (by assumption) (by walk_at "same53") (by assumption) (List.Mem.head _) (by kcf_all))
  | (refine pick_next (by unfold qf; first | (rw [if_pos hi6]; exact decide_eq_false (by assumption)) | (rw [if_neg (by omega)]; exact decide_eq_false (by assumption))) (by assumption) (by walk_at "same53") (by assumption) (by kcf_all)))))
theorem pick_len {rows : List PRow} {q : Int → Bool} {d : Str} (hr : ∀ r ∈ rows, r.c.length ≤ 1) (hd : d.length ≤ 1) : (pickC rows q d).length ≤ 1 := by
  unfold pickC
  split
  · rename_i r h
    exact hr r (List.mem_of_find?_eq_some h)
  · exact hd
theorem fmD_len (i : Nat) : (fmD i).length ≤ 1 := by
  unfold fmD
  split <;> decide
theorem tabs_short : ∀ p ∈ tabs53, ∀ r ∈ p.2, r.c.length ≤ 1 := by
  have : (tabs53.all fun p => p.2.all fun r => decide (r.c.length ≤ 1)) = true := by decide +kernel
  intro p hp r hr
  exact of_decide_eq_true (List.all_eq_true.mp (List.all_eq_true.mp this p hp) r hr)
theorem out_short (mode : Int) : ∀ x ∈ outTexts (fmC mode) tabs53, x.length ≤ 1 := by
  intro x hx
  obtain ⟨⟨p, i⟩, hp, rfl⟩ := List.mem_map.mp hx
  have hm : p ∈ tabs53 := by
    have := List.mem_zipIdx hp
    rw [this.2.2]
    exact List.getElem_mem _
  exact pick_len (tabs_short p hm) (fmD_len i)
theorem sum_short : ∀ l : List Str, (∀ x ∈ l, x.length ≤ 1) → (l.map (·.length)).sum ≤ l.length
  | [], _ => Nat.le_refl _
  | x :: r, h => by
    have h1 := h x (List.mem_cons_self ..)
    have h2 := sum_short r fun y hy => h y (List.mem_cons_of_mem _ hy)
    simp only [List.map_cons, List.sum_cons, List.length_cons]
    omega
theorem out_ok (mode : Int) : ((outTexts (fmC mode) tabs53).map (·.length)).sum + (outTexts (fmC mode) tabs53).length * 64 ≤ 16777216 := by
  have h1 := sum_short _ (out_short mode)
  have h2 : (outTexts (fmC mode) tabs53).length = 10 := outTexts_len _ _
  omega
def fmStr (mode : Int) : Str := Txt.join (Str.ofString "") (outTexts (fmC mode) tabs53)
set_option hygiene false in
local macro_rules | `(tactic| walk_at "call builtin:str.join") => `(tactic| (k_here; k_dflt (refine join_listC (News.isList N7 (List.Mem.head _)) (ys := outTexts (fmC mode) tabs53) (by simpa using hS7) (by decide) (out_ok mode) ?_); intro _ _))
set_option hygiene false in
local macro_rules | `(tactic| walk_at "call builtin:list.append") => `(tactic| (k_here; (with_reducible show wpAny _ _ (call (Value.builtin _) [Value.ref _, _]) _ _ _); k_dflt (refine append_K (by k_asm) (by k_asm) (by k_upd) ?_ (by rw [PySem.sizeLine_eq]; simp only [List.size_toArray]; omega)); intro h' F' N'))
set_option hygiene false in
local macro_rules | `(tactic| walk_at "call ref") => `(tactic| (k_here; (with_reducible show wpAny _ _ (call (Value.ref 44) [Value.int _ _]) _ _ _); k_dflt (refine ifmt _ _ _ _ _ _ _ _ _ _ _ _ _ _ _ _ _ _ _ (by k_asm) (by k_asm) (by k_asm) (by k_asm) (by rfl) (by ktr_room) (by ktr_units) ?_); intro t9 h9 tk9 S9; (have F9 := frStays (by k_asm) S9); (have N9 := newsStays (by k_asm) S9); (try dsimp only)))
theorem fmode {w : World} {mean : ExcName → Option Value} {mg mb : Str → Option Value} (mode : Int) (t : Tok) (hm0 : 0 ≤ mode) (hm1 : mode < 4294967296)
  (dp un : Nat) (gd : Option (List Code)) (cn : Str) (cs : Scope) (a : Addr) (ccd : Value) (cl : List (Str × Addr)) (outer : List Env) (A₀ : Around) (base h₀ : Heap) (L : Addr) (m : Str → Option Value) (s : Shared) (Q E : Value → Shared → Prop)
  (B : Below A₀ base outer h₀) (F : Fr h₀ L s.heap m) (X : (hd.heap_39 w.params).In h₀) (T : Top topProg (looseW hd.view_39 [Str.ofString "_initial_missing", Str.ofString "reduce", Str.ofString "_filemode_table"] ++ List.map (fun x => x.name) (recsOf hd.view_39) ++ List.map (fun x => x.fst) (litsOf hd.view_39) ++ List.map (fun x => x.name) (clssOf hd.view_39 (looseW hd.view_39 [Str.ofString "_initial_missing", Str.ofString "reduce", Str.ofString "_filemode_table"]))) mean mg mb h₀) (hk : cs.kind = .function)
  (hdp : dp + 2 < recursionLimit) (hun : un + 100 < cLine)
  (hQ : ∀ t' h' tk', s.heap.StaysIn h' → Q (.str (fmStr mode) t') { s with heap := h', toks := tk' }) :
  wpAny (model PySem.Challenge.rw_nq0053_01.prog w) (ktrTop dp un gd cn cs L a ccd cl outer) (call (.ref 84) [.int mode t]) Q E s := by
  w_top off
  k_with_none
  refine wpAny_call ?_
  revert X
  k_fill
  intro X
  (refine' code_pure ?k1 ?k2 ?k3 ?k5 ?kA ?kF ?kK ?k6 ?k7 ?k8 ?k9 ?kB ?_ ?c2 ?c3 ?c4 ?c5; (case kA => exact rfl); (case kF => exact rfl); (case kK => assumption); (case k1 => k_asm); (case k2 => k_asm); (case k3 => k_asm); (case k5 => k_asm); (case k6 => k_is); (case k7 => k_is); (case k8 => ktr_room); (case k9 => exact BindsTo.of_eq rfl); (case c5 => decide); (case kB => exact locs rfl); (case c2 => exact rfl); (case c3 => exact rfl); (case c4 => exact rfl); k_whole; intro L' h' F' N' B' X' T'; (try dsimp only); (try k_lift B'); (try k_fold))
  repeat' (first | (k_unfold; (try dsimp only)) | walk1 | (dsimp only; walk1))
  all_goals exact hQ _ _ _ (by assumption)
end Mine
-- part Row53
set_option maxHeartbeats 1000000
namespace Mine
def T3 (r wr x ab : Int) (sg : Str) : Str := Txt.item (Str.ofString "-r") r ++ Txt.item (Str.ofString "-w") wr ++ Txt.item sg (x + 2 * ab)
section
set_option hygiene false in
local macro_rules | `(tactic| walk_at "subscriptTail") => `(tactic| (k_here; (with_reducible show wpAny _ _ (subscriptTail _ _ (Value.str sg _) (Value.int _ _)) _ _ _); k_dflt (refine item_str (fitsSsize_of (N := 9223372036854775808) (by omega) (by omega) (Int.le_refl _)) (by rw [hsg]; omega) (by rw [hsg]; omega) ?_); intro kxiE))
theorem three {w : World} {mean : ExcName → Option Value} {mg mb : Str → Option Value} (r wr x ab : Int) (sg : Str) (t1 t2 t3 t4 t5 : Tok) (h1 : 0 ≤ r) (h2 : r < 2) (h3 : 0 ≤ wr) (h4 : wr < 2) (h5 : 0 ≤ x) (h6 : x < 2) (h7 : 0 ≤ ab) (h8 : ab < 2) (hsg : sg.length = 4)
  (dp un : Nat) (gd : Option (List Code)) (cn : Str) (cs : Scope) (a : Addr) (ccd : Value) (cl : List (Str × Addr)) (outer : List Env) (A₀ : Around) (base h₀ : Heap) (L : Addr) (m : Str → Option Value) (s : Shared) (Q E : Value → Shared → Prop)
  (B : Below A₀ base outer h₀) (F : Fr h₀ L s.heap m) (X : (hd.heap_39 w.params).In h₀) (T : Top topProg (looseW hd.view_39 [Str.ofString "_initial_missing", Str.ofString "reduce", Str.ofString "_filemode_table"] ++ List.map (fun x => x.name) (recsOf hd.view_39) ++ List.map (fun x => x.fst) (litsOf hd.view_39) ++ List.map (fun x => x.name) (clssOf hd.view_39 (looseW hd.view_39 [Str.ofString "_initial_missing", Str.ofString "reduce", Str.ofString "_filemode_table"]))) mean mg mb h₀) (hk : cs.kind = .function)
  (hdp : dp + 1 < recursionLimit) (hun : un + 8 < cLine)
  (hQ : ∀ t' h' tk', s.heap.StaysIn h' → Q (.str (T3 r wr x ab sg) t') { s with heap := h', toks := tk' }) :
  wpAny (model PySem.Challenge.rw_nq0053_01.prog w) (ktrTop dp un gd cn cs L a ccd cl outer) (call (.ref 98) [.int r t1, .int wr t2, .int x t3, .int ab t4, .str sg t5]) Q E s := by
  w_top off
  k_with_none
  refine wpAny_call ?_
  revert X
  k_fill
  intro X
  (refine' code_pure ?k1 ?k2 ?k3 ?k5 ?kA ?kF ?kK ?k6 ?k7 ?k8 ?k9 ?kB ?_ ?c2 ?c3 ?c4 ?c5; (case kA => exact rfl); (case kF => exact rfl); (case kK => assumption); (case k1 => k_asm); (case k2 => k_asm); (case k3 => k_asm); (case k5 => k_asm); (case k6 => k_is); (case k7 => k_is); (case k8 => ktr_room); (case k9 => exact BindsTo.of_eq rfl); (case c5 => decide); (case kB => exact locs rfl); (case c2 => exact rfl); (case c3 => exact rfl); (case c4 => exact rfl); k_whole; intro L' h' F' N' B' X' T'; (try dsimp only); (try k_lift B'); (try k_fold))
  repeat' (first | (k_unfold; (try dsimp only)) | walk1 | (dsimp only; walk1))
  all_goals exact hQ _ _ _ (by assumption)
end
theorem T3_len (r wr x ab : Int) (sg : Str) : (T3 r wr x ab sg).length = 3 := by
  unfold T3
  rw [Str.length_append, Str.length_append, len_item, len_item, len_item]
theorem fm2 (n : Int) : 0 ≤ n.fmod 2 ∧ n.fmod 2 < 2 := ⟨Int.fmod_nonneg_of_pos n (by decide), Int.fmod_lt_of_pos n (by decide)⟩
theorem fd8 {n : Int} (h0 : 0 ≤ n) (h1 : n < 16) : 0 ≤ n.fdiv 8 ∧ n.fdiv 8 < 2 := by
  rw [Int.fdiv_eq_ediv_of_nonneg _ (by decide)]
  omega
def rowS (kind one two three : Int) : Str :=
  Txt.item (Str.ofString "?pc?d?b?-?l?s???") kind ++ T3 (one.fmod 2) (two.fdiv 8) ((two.fdiv 4).fmod 2) (one.fdiv 8) (Str.ofString "-xSs") ++
    T3 ((two.fdiv 2).fmod 2) (two.fmod 2) (three.fdiv 8) ((one.fdiv 4).fmod 2) (Str.ofString "-xSs") ++ T3 ((three.fdiv 4).fmod 2) ((three.fdiv 2).fmod 2) (three.fmod 2) ((one.fdiv 2).fmod 2) (Str.ofString "-xTt")
section
set_option hygiene false in
local macro_rules | `(tactic| walk_at "call ref") => `(tactic| (k_here; (with_reducible show wpAny _ _ (call (Value.ref 98) [Value.int _ _, Value.int _ _, Value.int _ _, Value.int _ _, Value.str _ _]) _ _ _); k_dflt (refine three _ _ _ _ _ _ _ _ _ _ (by (first | exact (fm2 _).1 | exact (fm2 _).2 | exact (fd8 (by assumption) (by assumption)).1 | exact (fd8 (by assumption) (by assumption)).2)) (by (first | exact (fm2 _).1 | exact (fm2 _).2 | exact (fd8 (by assumption) (by assumption)).1 | exact (fd8 (by assumption) (by assumption)).2)) (by (first | exact (fm2 _).1 | exact (fm2 _).2 | exact (fd8 (by assumption) (by assumption)).1 | exact (fd8 (by assumption) (by assumption)).2)) (by (first | exact (fm2 _).1 | exact (fm2 _).2 | exact (fd8 (by assumption) (by assumption)).1 | exact (fd8 (by assumption) (by assumption)).2)) (by (first | exact (fm2 _).1 | exact (fm2 _).2 | exact (fd8 (by assumption) (by assumption)).1 | exact (fd8 (by assumption) (by assumption)).2)) (by (first | exact (fm2 _).1 | exact (fm2 _).2 | exact (fd8 (by assumption) (by assumption)).1 | exact (fd8 (by assumption) (by assumption)).2)) (by (first | exact (fm2 _).1 | exact (fm2 _).2 | exact (fd8 (by assumption) (by assumption)).1 | exact (fd8 (by assumption) (by assumption)).2)) (by (first | exact (fm2 _).1 | exact (fm2 _).2 | exact (fd8 (by assumption) (by assumption)).1 | exact (fd8 (by assumption) (by assumption)).2)) (by decide) _ _ _ _ _ _ _ _ _ _ _ _ _ _ _ _ _ (by k_asm) (by k_asm) (by k_asm) (by k_asm) (by rfl) (by ktr_room) (by ktr_units) ?_); intro t9 h9 tk9 S9; (have F9 := frStays (by k_asm) S9); (have N9 := newsStays (by k_asm) S9); (try dsimp only)))
theorem lrow {w : World} {mean : ExcName → Option Value} {mg mb : Str → Option Value} (kind one two thr : Int) (t1 t2 t3 t4 : Tok) (h1 : 0 ≤ kind) (h2 : kind < 16) (h3 : 0 ≤ one) (h4 : one < 16) (h5 : 0 ≤ two) (h6 : two < 16) (h7 : 0 ≤ thr) (h8 : thr < 16)
  (dp un : Nat) (gd : Option (List Code)) (cn : Str) (cs : Scope) (a : Addr) (ccd : Value) (cl : List (Str × Addr)) (outer : List Env) (A₀ : Around) (base h₀ : Heap) (L : Addr) (m : Str → Option Value) (s : Shared) (Q E : Value → Shared → Prop)
  (B : Below A₀ base outer h₀) (F : Fr h₀ L s.heap m) (X : (hd.heap_39 w.params).In h₀) (T : Top topProg (looseW hd.view_39 [Str.ofString "_initial_missing", Str.ofString "reduce", Str.ofString "_filemode_table"] ++ List.map (fun x => x.name) (recsOf hd.view_39) ++ List.map (fun x => x.fst) (litsOf hd.view_39) ++ List.map (fun x => x.name) (clssOf hd.view_39 (looseW hd.view_39 [Str.ofString "_initial_missing", Str.ofString "reduce", Str.ofString "_filemode_table"]))) mean mg mb h₀) (hk : cs.kind = .function)
  (hdp : dp + 2 < recursionLimit) (hun : un + 100 < cLine)
  (hQ : ∀ t' h' tk', s.heap.StaysIn h' → Q (.str (rowS kind one two thr) t') { s with heap := h', toks := tk' }) :
  wpAny (model PySem.Challenge.rw_nq0053_01.prog w) (ktrTop dp un gd cn cs L a ccd cl outer) (call (.ref 105) [.int kind t1, .int one t2, .int two t3, .int thr t4]) Q E s := by
  w_top off
  k_with_none
  refine wpAny_call ?_
  revert X
  k_fill
  intro X
  (refine' code_pure ?k1 ?k2 ?k3 ?k5 ?kA ?kF ?kK ?k6 ?k7 ?k8 ?k9 ?kB ?_ ?c2 ?c3 ?c4 ?c5; (case kA => exact rfl); (case kF => exact rfl); (case kK => assumption); (case k1 => k_asm); (case k2 => k_asm); (case k3 => k_asm); (case k5 => k_asm); (case k6 => k_is); (case k7 => k_is); (case k8 => ktr_room); (case k9 => exact BindsTo.of_eq rfl); (case c5 => decide); (case kB => exact locs rfl); (case c2 => exact rfl); (case c3 => exact rfl); (case c4 => exact rfl); k_whole; intro L' h' F' N' B' X' T'; (try dsimp only); (try k_lift B'); (try k_fold))
  repeat' (first | (k_unfold; (try dsimp only)) | walk1 | (dsimp only; walk1))
  all_goals exact hQ _ _ _ (by assumption)
end
end Mine
-- part Red53
set_option maxHeartbeats 1000000
namespace Mine
abbrev foldM (x y : Str) (v : Value) (u m : Str → Option Value) : Str → Option Value := fun z => if z = y then some v else if z = x then u z else m z
theorem foldM_eq {x y : Str} {v : Value} {m m' : Str → Option Value} (hy : m' y = some v) (h : ∀ z, z ≠ x → z ≠ y → m' z = m z) : foldM x y v m' m = m' := by
  funext z
  show (if z = y then some v else if z = x then m' z else m z) = m' z
  by_cases h1 : z = y
  · subst h1; simp [hy]
  · by_cases h2 : z = x
    · subst h2; simp [h1]
    · simp only [if_neg h1, if_neg h2]; exact (h z h2 h1).symm
section
variable {prog : Program} {w : World} {A : Around} {E : Value → Shared → Prop} {s : Shared} {h₀ : Heap} {env : Env}
def FoldEnd (h₀ : Heap) (L : Addr) (s : Shared) (x y : Str) (m : Str → Option Value) (I : Addr) (oI : Obj) (news : List (Addr × Obj)) (r : Int) (f : Flow) (s₃ : Shared) : Prop :=
  match f with
  | .ret _ => False
  | .brk => False
  | _ => ∃ h' tk' m' t', s₃ = { s with heap := h', toks := tk' } ∧ Fr h₀ L h' m' ∧ m' y = some (.int r t') ∧ (∀ z, z ≠ x → z ≠ y → m' z = m z) ∧ News h₀ L h' ((I, oI) :: news)
def FoldSrc (prog : Program) (w : World) (A : Around) (E : Value → Shared → Prop) (h₀ : Heap) (env : Env) (x : Str) (px : Pos) (body : List Stmt) (Q : Flow → Shared → Prop) (xv : Value) (s : Shared) : Prop :=
  ∃ (I l : Addr) (vs : List Value) (ns : List Int) (g : Int → Int → Int) (y : Str) (a₀ : Int) (t₀ : Tok) (m : Str → Option Value) (oI : Obj) (news : List (Addr × Obj)),
    xv = .ref I ∧ A.handled = none ∧ s.heap.IsListIter I l 0 ∧ h₀.IsList l vs.toArray ∧ IntsAre vs ns ∧ m y = some (.int a₀ t₀) ∧ x ≠ y ∧ Fr h₀ env.locals s.heap m ∧ News h₀ env.locals s.heap ((I, oI) :: news) ∧ (∀ p ∈ news, p.1 ≠ I) ∧
    (∀ i k t a ta u h tk oI, ns[i]? = some k → a = (ns.take i).foldl g a₀ → Fr h₀ env.locals h (foldM x y (.int a ta) u m) → News h₀ env.locals h ((I, oI) :: news) →
      wpAny (model prog w) A (assign (.Name x px) env (.int k t)) (fun _ s₂ => wpAny (model prog w) A (execs body env) (FoldEnd h₀ env.locals { s with heap := h, toks := tk } x y m I oI news (g a k)) E s₂) E { s with heap := h, toks := tk }) ∧
    (∀ u ta h tk, Fr h₀ env.locals h (foldM x y (.int (ns.foldl g a₀) ta) u m) → News h₀ env.locals h news → Q .next { s with heap := h, toks := tk })
theorem for_fold {x : Str} {px : Pos} {iter : Expr} {body : List Stmt} {pos : Pos} {Q : Flow → Shared → Prop}
    (h : wpAny (model prog w) A (eval iter env) (FoldSrc prog w A E h₀ env x px body Q) E s)
    (hs : ∀ x, foldedSetIterable iter env x = pure x) (hE : PassesOwn (model prog w) A env E) :
    wpAny (model prog w) A (exec (.For (.Name x px) iter body [] pos) env) Q E s := by
  refine wpAny_For (wpAny_mono h (fun xv s₁ h₁ => ?_) fun _ _ e => e) hs
  obtain ⟨I, l, vs, ns, g, y, a₀, t₀, m, oI, news, rfl, hh, hIt, hl, hI, hy, hxy, F, N, off, turn, done⟩ := h₁
  have hIn := N (I, oI) (List.mem_cons_self ..)
  have hlne : l ≠ I := fun e => by
    obtain ⟨o, ho, _⟩ := hl
    rw [e, hIn.2.2] at ho; cases ho
  have W := Walks.list (prog := prog) (w := w) (A := A) hh I l hlne vs.toArray
  have hl₁ : s₁.heap.IsList l vs.toArray := hl.at fun o e => F.keep l o e
  refine W.self 0 _ _ _ ⟨hIt, hl₁⟩ ?_
  refine codeAny_forLoop_any
    (fun k s' => ∃ h' tk m' i a ta, s' = { s₁ with heap := h', toks := tk } ∧ k = ns.length + 1 - i ∧ i ≤ ns.length ∧ h'.IsListIter I l i ∧ Fr h₀ env.locals h' m' ∧ m' y = some (.int a ta) ∧ a = (ns.take i).foldl g a₀ ∧ (∀ z, z ≠ x → z ≠ y → m' z = m z) ∧
      News h₀ env.locals h' news) ?_ (ns.length + 1)
    ⟨_, s₁.toks, m, 0, a₀, t₀, rfl, rfl, Nat.zero_le _, hIt, F, hy, rfl, fun _ _ _ => rfl, fun p hp => N p (List.mem_cons_of_mem _ hp)⟩
  rintro k s' ⟨h', tk, m', i, a, ta, rfl, rfl, hi, hit, F', hy', ha, hm', N'⟩
  have hl' : h'.IsList l vs.toArray := hl.at fun o e => F'.keep l o e
  have hsz : vs.toArray.size = ns.length := by rw [List.size_toArray, hI.length]
  have next : ∀ h₁ : Heap, (∀ b o, b ∉ [I] → h'.get? b = some o → h₁.get? b = some o) → Fr h₀ env.locals h₁ m' ∧ News h₀ env.locals h₁ news := fun h₁ hk =>
    ⟨⟨F'.ns.at' fun o e => hk _ o (by simpa using Ne.symm hIn.2.1) e, fun b o e => hk b o (fun hb => by rw [List.mem_singleton.mp hb, hIn.2.2] at e; cases e) (F'.keep b o e), F'.above⟩,
      fun p hp => ⟨hk _ _ (by simpa using off p hp) (N' p hp).1, (N' p hp).2⟩⟩
  by_cases hlt : i < ns.length
  · refine W.item i _ _ _ (by rw [hsz]; exact hlt) ⟨hit, hl'⟩ fun v h₁ tk₁ hv hst₁ hk₁ => ?_
    obtain ⟨k, t, hk⟩ : ∃ k t, ns[i]? = some k ∧ v = .int k t := by
      obtain ⟨k, t, e, hk⟩ := IntsAre.at hI i v (by simpa using hv)
      exact ⟨k, t, hk, e⟩
    obtain ⟨hk, rfl⟩ := hk
    have letgo : letOwnedTupleGo (.Name x px) (.ref I) (.int k t) = pure () := rfl
    refine wpAny_of_eq letgo ?_
    obtain ⟨F₁, N₁⟩ := next h₁ hk₁
    obtain ⟨oI', hoI', hoc, hod⟩ := id hst₁.1
    have F₁' : Fr h₀ env.locals h₁ (foldM x y (.int a ta) m' m) := by rw [foldM_eq hy' hm']; exact F₁
    have N₂ : News h₀ env.locals h₁ ((I, oI') :: news) := fun p hp => by
      rcases List.mem_cons.mp hp with rfl | hp
      · exact ⟨hoI', hIn.2⟩
      · exact N₁ p hp
    refine wpAny_mono (turn i k t a ta m' h₁ tk₁ oI' hk ha F₁' N₂) (fun _ s₂ h₂ => ?_) hE
    refine wpAny_mono h₂ (fun f s₃ h₃ => ?_) hE
    have fin : FoldEnd h₀ env.locals { s₁ with heap := h₁, toks := tk₁ } x y m I oI' news (g a k) .next s₃ →
        ∃ k', k' < ns.length + 1 - i ∧ ∃ h' tk m' i a ta, s₃ = { s₁ with heap := h', toks := tk } ∧ k' = ns.length + 1 - i ∧ i ≤ ns.length ∧ h'.IsListIter I l i ∧ Fr h₀ env.locals h' m' ∧ m' y = some (.int a ta) ∧ a = (ns.take i).foldl g a₀ ∧ (∀ z, z ≠ x → z ≠ y → m' z = m z) ∧
          News h₀ env.locals h' news := by
      rintro ⟨h₄, tk₄, m₄, t', rfl, F₄, hy₄, hm₄, N₄⟩
      refine ⟨ns.length + 1 - (i + 1), by omega, h₄, tk₄, m₄, i + 1, g a k, t', rfl, rfl, hlt, ⟨oI', (N₄ (I, oI') (List.mem_cons_self ..)).1, hoc, hod⟩, F₄, hy₄, ?_, hm₄, fun p hp => N₄ p (List.mem_cons_of_mem _ hp)⟩
      rw [List.take_add_one, hk, ha]
      simp
    cases f with
    | ret v => exact h₃.elim
    | brk => exact h₃.elim
    | next => exact fin h₃
    | cont => exact fin h₃
  · have hin : i = ns.length := by omega
    subst hin
    refine W.done _ _ _ (by rw [hsz]; exact ⟨hit, hl'⟩) fun h₁ tk₁ hk₁ => wpAny_execs_nil ?_
    obtain ⟨F₁, N₁⟩ := next h₁ hk₁
    rw [List.take_length] at ha
    subst ha
    exact done m' ta h₁ tk₁ (by rw [foldM_eq hy' hm']; exact F₁) N₁
end
theorem iter_list53 {prog : Program} {w : World} {A : Around} {E : Value → Shared → Prop} {s : Shared} {h₀ : Heap} {L l : Addr} {m : Str → Option Value} {news : List (Addr × Obj)} {items : Array Value} {Q : Value → Shared → Prop} (F : Fr h₀ L s.heap m) (N : News h₀ L s.heap news) (hl : s.heap.IsList l items)
    (h : ∀ (I : Addr) h', Fr h₀ L h' m → News h₀ L h' ((I, { cls := .type "list_iterator", data := .fields #[.ref l, .int 0 0] }) :: news) → (∀ p ∈ news, p.1 < I) → Q (.ref I) { s with heap := h' }) :
    wpAny (model prog w) A (call (.builtin "iter") [.ref l]) Q E s := by
  refine call_function_entry (by decide +kernel) (by decide +kernel) kdk_entry_iter (kdk_args_iter _) ?_
  unfold Builtin.«iter»
  refine wpAny_bind (m := someArgs "iter" 1 2 _) (wpAny_of_eq (a := [Value.ref l]) (by first | rfl | kernel_rfl!) ?_)
  show wpAny _ _ (pyIter (.ref l) >>= _) _ _ _
  refine wpAny_bind (wpAny_pyIter_list hl ?_)
  exact wpAny_pure ⟨_, rfl, h _ _ (F.push _) (News.push F N _ rfl) (fun q hq => Heap.lt_size (N q hq).1)⟩
def hx (a b : Int) : Int := a * 16 + b
theorem hx_bound : ∀ (ns : List Int) (a : Int) (k : Nat), (∀ x ∈ ns, 0 ≤ x ∧ x < 16) → 0 ≤ a → a < 16 ^ k → 0 ≤ ns.foldl hx a ∧ ns.foldl hx a < 16 ^ (k + ns.length)
  | [], a, k, _, h0, h1 => ⟨h0, h1⟩
  | x :: r, a, k, h, h0, h1 => by
    have hx0 := h x (List.mem_cons_self ..)
    have := hx_bound r (hx a x) (k + 1) (fun y hy => h y (List.mem_cons_of_mem _ hy)) (by unfold hx; omega) (by unfold hx; rw [Int.pow_succ]; omega)
    rw [List.foldl_cons, List.length_cons, show k + (r.length + 1) = k + 1 + r.length by omega]
    exact this
theorem hx_small {ns : List Int} (h : ∀ x ∈ ns, 0 ≤ x ∧ x < 16) (hl : ns.length ≤ 8) (i : Nat) : 0 ≤ (ns.take i).foldl hx 0 ∧ (ns.take i).foldl hx 0 < 4294967296 := by
  have hb := hx_bound (ns.take i) 0 0 (fun x hx => h x (List.mem_of_mem_take hx)) (by omega) (by decide)
  refine ⟨hb.1, ?_⟩
  have hle : (ns.take i).length ≤ 8 := by rw [List.length_take]; omega
  have e : ∀ n : Nat, ((16 : Int) ^ n) = ((16 ^ n : Nat) : Int) := fun n => by simp
  have h16 : (16 : Int) ^ (0 + (ns.take i).length) ≤ 16 ^ 8 := by
    rw [e, e]
    exact Int.ofNat_le.mpr (Nat.pow_le_pow_right (by decide) (by omega))
  have : (16 : Int) ^ 8 = 4294967296 := by decide
  omega
/-- what the handed function does, wherever what stood stays -/
abbrev LamSpec (w : World) (mean : ExcName → Option Value) (mg mb : Str → Option Value) (f : Addr) (hp : Heap) : Prop :=
  ∀ (x y : Int) (t u : Tok) (dp un : Nat) (gd : Option (List Code)) (cn : Str) (cs : Scope) (a : Addr) (ccd : Value) (cl : List (Str × Addr)) (outer : List Env) (A₀ : Around) (base h₀ : Heap) (L : Addr) (m : Str → Option Value) (s : Shared) (Q E : Value → Shared → Prop),
    0 ≤ x → x < 4294967296 → 0 ≤ y → y < 16 → hp.StaysIn s.heap →
    Below A₀ base outer h₀ → Fr h₀ L s.heap m → (hd.heap_39 w.params).In h₀ → Top topProg (looseW hd.view_39 [Str.ofString "_initial_missing", Str.ofString "reduce", Str.ofString "_filemode_table"] ++ List.map (fun x => x.name) (recsOf hd.view_39) ++ List.map (fun x => x.fst) (litsOf hd.view_39) ++ List.map (fun x => x.name) (clssOf hd.view_39 (looseW hd.view_39 [Str.ofString "_initial_missing", Str.ofString "reduce", Str.ofString "_filemode_table"]))) mean mg mb h₀ → cs.kind = .function →
    dp + 1 < recursionLimit → un + 8 < cLine →
    (∀ t' h' tk', s.heap.StaysIn h' → Q (.int (hx x y) t') { s with heap := h', toks := tk' }) →
    wpAny (model PySem.Challenge.rw_nq0053_01.prog w) (ktrTop dp un gd cn cs L a ccd cl outer) (call (.ref f) [.int x t, .int y u]) Q E s
section
set_option hygiene false in
local macro_rules | `(tactic| walk_at "exec For Name Name cons nil") => `(tactic| (k_here; k_dflt (refine for_fold (h₀ := s.heap) ?_ (by intro _; rfl) (by with_unfolding_all passes_own))))
set_option hygiene false in
local macro_rules | `(tactic| walk_at "call builtin:iter") => `(tactic| (k_here; k_dflt (refine iter_list53 (by k_asm) (by k_asm) (Fr.lst (by k_asm) hl) ?_); intro I5 h5 F5 N5 l5; (try k_lt l5)))
set_option hygiene false in
local macro_rules | `(tactic| walk_at "FoldSrc") => `(tactic| (k_here; k_dflt (refine ⟨I5, l, vs, ns, hx, Str.ofString "value", 0, _, _, _, _, rfl, rfl, ⟨_, (News.get (by k_asm) (List.Mem.head _)), rfl, rfl⟩, hl, hI, rfl, (by decide), (by k_asm), (by k_asm), (by exact List.forall_mem_nil _), ?_, ?_⟩); (case' refine_1 => intro i6 k6 t6 a6 ta6 u6 h6 tk6 o6 hk6 ha6 F6 N6); (case' refine_2 => intro u7 ta7 h7 tk7 F7 N7)))
local macro_rules | `(tactic| walk_at "compareOp Is int ref") => `(tactic| (k_here; refine wpAny_is_other (by rfl) (by intro x; cases x) ?_))
set_option hygiene false in
local macro_rules | `(tactic| walk_at "callWith ref") => `(tactic| (k_here; (with_reducible show wpAny _ _ (callWith _ (Value.ref f) _ _ _) _ _ _); k_dflt (refine callWith_def hfd ?_)))
set_option hygiene false in
local macro_rules | `(tactic| walk_at "And") => `(tactic| (k_here; refine And.intro (Fr.keep (by k_asm) _ _ hfo) ?_))
set_option hygiene false in
local macro_rules | `(tactic| walk_at "call ref") => `(tactic| (k_here; k_dflt (refine hf _ _ _ _ _ _ _ _ _ _ _ _ _ _ _ _ _ _ _ _ _ (by rw [ha6]; exact (hx_small hr hlen _).1) (by rw [ha6]; exact (hx_small hr hlen _).2) (hr _ (List.mem_of_getElem? hk6)).1 (hr _ (List.mem_of_getElem? hk6)).2 (Fr.keep (by k_asm)) (by k_asm) (by k_asm) (by k_asm) (by k_asm) (by rfl) (by ktr_room) (by ktr_units) ?_); intro t9 h9 tk9 S9; (have F9 := frStays (by k_asm) S9); (have N9 := newsStays (by k_asm) S9); (try dsimp only)))
section
variable {h₀ : Heap} {L : Addr} {s : Shared} {x y : Str} {m m' : Str → Option Value} {I : Addr} {oI : Obj} {news all : List (Addr × Obj)} {r : Int} {h' : Heap} {tk' : Nat} {t' : Tok}
theorem fold_end (F : Fr h₀ L h' m') (N : News h₀ L h' all) (hy : m' y = some (.int r t')) (ag : ∀ z, z ≠ x → z ≠ y → m' z = m z) (hn : ∀ p ∈ (I, oI) :: news, p ∈ all) :
    FoldEnd h₀ L s x y m I oI news r .next { s with heap := h', toks := tk' } := ⟨h', tk', m', t', rfl, F, hy, ag, fun p hp => N p (hn p hp)⟩
end
local macro_rules | `(tactic| walk_at "FoldEnd") => `(tactic| (k_dflt (refine fold_end (by assumption) (by assumption) (by rfl) (by intro z z1 z2; simp [foldM, z1, z2]; done) (by kcf_all))))
theorem red {w : World} {mean : ExcName → Option Value} {mg mb : Str → Option Value} (f l : Addr) (vs : List Value) (ns : List Int) (t : Tok)
  (dp un : Nat) (gd : Option (List Code)) (cn : Str) (cs : Scope) (a : Addr) (ccd : Value) (cl : List (Str × Addr)) (outer : List Env) (A₀ : Around) (base h₀ : Heap) (L : Addr) (m : Str → Option Value) (s : Shared) (Q E : Value → Shared → Prop)
  (hf : LamSpec w mean mg mb f s.heap) (fo : Obj) (fd : FuncData) (hfo : s.heap.get? f = some fo) (hfd : fo.data = .func fd) (hl : s.heap.IsList l vs.toArray) (hI : IntsAre vs ns) (hr : ∀ x ∈ ns, 0 ≤ x ∧ x < 16) (hlen : ns.length ≤ 8)
  (B : Below A₀ base outer h₀) (F : Fr h₀ L s.heap m) (X : (hd.heap_39 w.params).In h₀) (T : Top topProg (looseW hd.view_39 [Str.ofString "_initial_missing", Str.ofString "reduce", Str.ofString "_filemode_table"] ++ List.map (fun x => x.name) (recsOf hd.view_39) ++ List.map (fun x => x.fst) (litsOf hd.view_39) ++ List.map (fun x => x.name) (clssOf hd.view_39 (looseW hd.view_39 [Str.ofString "_initial_missing", Str.ofString "reduce", Str.ofString "_filemode_table"]))) mean mg mb h₀) (hk : cs.kind = .function)
  (hdp : dp + 2 < recursionLimit) (hun : un + 100 < cLine)
  (hQ : ∀ t' h' tk', s.heap.StaysIn h' → Q (.int (ns.foldl hx 0) t') { s with heap := h', toks := tk' }) :
  wpAny (model PySem.Challenge.rw_nq0053_01.prog w) (ktrTop dp un gd cn cs L a ccd cl outer) (call (.ref 30) [.ref f, .ref l, .int 0 t]) Q E s := by
  w_top off
  k_with_none
  refine wpAny_call ?_
  revert X
  k_fill
  intro X
  (refine' code_pure ?k1 ?k2 ?k3 ?k5 ?kA ?kF ?kK ?k6 ?k7 ?k8 ?k9 ?kB ?_ ?c2 ?c3 ?c4 ?c5; (case kA => exact rfl); (case kF => exact rfl); (case kK => assumption); (case k1 => k_asm); (case k2 => k_asm); (case k3 => k_asm); (case k5 => k_asm); (case k6 => k_is); (case k7 => k_is); (case k8 => ktr_room); (case k9 => first | exact BindsTo.of_eq rfl | exact binds_K (by k_in) rfl (by k_is) rfl rfl rfl); (case c5 => decide); (case kB => exact locs rfl); (case c2 => exact rfl); (case c3 => exact rfl); (case c4 => exact rfl); k_whole; intro L' h' F' N' B' X' T'; (try dsimp only); (try k_lift B'); (try k_fold))
  repeat' (first | (k_unfold; (try dsimp only)) | walk1 | (dsimp only; walk1))
  all_goals exact hQ _ _ _ (by assumption)
end
end Mine
-- part ByComp
set_option maxHeartbeats 2000000
namespace Mine
section
variable {prog : Program} {w : World} {A : Around} {E : Value → Shared → Prop} {s : Shared} {h₀ : Heap} {L : Addr} {m : Str → Option Value} {env : Env}
/-- a comprehension without a test whose source is bytes, stored into a name -/
def BySrc (prog : Program) (w : World) (A : Around) (h₀ : Heap) (L : Addr) (m : Str → Option Value) (env : Env) (elt : Expr) (x : Str) (scope : Scope) (cl : List (Str × Addr)) (Fin : Shared → List Value → List (Addr × Obj) → Prop) (xv : Value) (s₁ : Shared) : Prop :=
  ∃ b t news, xv = .bytes b t ∧ A.handled = none ∧ Fr h₀ L s₁.heap m ∧ News h₀ L s₁.heap news ∧ b.size ≤ sizeLine ∧
    ∀ g, LCg.CompRest prog w A h₀ L m env elt x scope cl { s₁ with heap := g } (fun _ => True) (fun i v => ∃ c u, b[i]? = some c ∧ v = .int (c.toNat : Int) u) (Fin { s₁ with heap := g }) b.size 0 [] news
theorem assign_lc_bytes {elt iter : Expr} {x y : Str} {px py : Pos} {scope : Scope} {cl : List (Str × Addr)} {pos spos : Pos} {Q : Flow → Shared → Prop} (F₀ : Fr h₀ L s.heap m) (hLe : env.locals = L)
    (hsw : swapsWith (.ListComp elt [⟨.Name x px, iter, [], 0⟩] scope pos) (some (.Name y py)) spos.line env = pure true)
    (hclos : closureFor scope env = pure cl) (hcell : ∀ z ∈ scope.names, z.2 ≠ .cell) (hkind : scope.kind = .function)
    (hnames : ∀ z ∈ scope.names, z.2 = .local → scope.names.lookup z.1 = some .local) (hx : scope.names.lookup x = some .local)
    (hy : env.kindOf y = some .local) (hp : (env.scope.kind == .class || (env.scope.kind == .module && env.locals != env.globals)) = false)
    (h : wpAny (model prog w) A (eval iter env) (BySrc prog w A h₀ L m env elt x scope cl (fun s₂ => LCg.FinA h₀ L m s₂ y Q)) E s)
    (hs : ∀ x, foldedSetIterable iter env x = pure x := by intro _; rfl) :
    wpAny (model prog w) A (exec (.Assign [.Name y py] (.ListComp elt [⟨.Name x px, iter, [], 0⟩] scope pos) spos) env) Q E s := by
  subst hLe
  rw [exec_Assign_Name_used _ _ _ _ hsw]
  refine wpAny_bind (wpAny_standAt (wpAny_bind ?_))
  show wpAny _ A (do let _ ← comprehension (.ListComp elt [⟨.Name x px, iter, [], 0⟩] scope pos) scope env _ (newList []) false (eval iter env) (some (assign (.Name y py) env))) _ _ s
  refine wpAny_bind (wpAny_mono (wpAny_comprehension_free (use := some (assign (.Name y py) env)) (Q := fun _ s' => Q .next s') rfl hs hclos hkind hnames
    (wpAny_mono h (fun xv s₁ h₁ => ?_) fun _ _ e => e)) (fun _ s' hq => wpAny_pure (wpAny_pure hq)) fun _ _ e => e)
  obtain ⟨b, t, news, rfl, hh, F, N, hsz, R⟩ := h₁
  refine KBw.pyIter_bytes ?_
  have up : ∀ c o, s₁.heap.get? c = some o → (s₁.heap.push { cls := .type "bytes_iterator", data := .fields #[.bytes b t, .int 0 0] }).get? c = some o := fun c o e => Heap.get?_push_of_some _ e
  refine LCg.block_U (KBw.walks hh s₁.heap.objs.size b t) hsz (fun i h st => by obtain ⟨o, e, _⟩ := st; exact ⟨o, e⟩) (fun i h h' o nw st e e' _ _ _ => ?_) hcell hkind hx ⟨_, Heap.get?_push_size _ rfl, rfl, rfl⟩ (fun c hc => ?_)
    (F.keeps up) (N.grown up) (Nat.ne_of_lt F.ns.lt) (next_is_new F) (fun p hp => Nat.ne_of_lt (Heap.lt_size (N p hp).1)) trivial (R _) ?_
  · obtain ⟨o', e'', r⟩ := st
    rw [e] at e''
    exact ⟨o', e'.trans e'', r⟩
  · rw [List.mem_singleton.mp hc]
    show s₁.heap.objs.size < (s₁.heap.push _).objs.size
    rw [Heap.size_push]; exact Nat.lt_succ_self _
  · intro D C h' tk m' ys news' F' N' o1 hn hC₀ hD₀ hCL hDL hCD offC fin
    show wpAny _ A (assign (.Name y py) env (.ref D)) _ _ _
    refine wpAny_assign_Name (wpAny_storeName_local hy F'.ns (fun h₂ hn₂ hs₂ => ?_) hp)
    have hL₀ : h₀.get? env.locals = none := Heap.get?_none_of_le F'.above
    have F₂ : Fr h₀ env.locals h₂ (fun z => if z = y then some (.ref D) else m z) := ⟨hn₂, fun c o e => hs₂.extBut c o (fun q => by rw [q, hL₀] at e; cases e) (F'.keep c o e), F'.above⟩
    refine ⟨m', hn.sameBut hs₂ hCL, fun h'' hs'' => fin D h'' _ (F₂.change hs'' hCL hC₀) (fun p hp => ?_) o1⟩
    have z : h₂.get? p.1 = some p.2 := hs₂.extBut _ _ (N' p hp).2.1 (N' p hp).1
    refine ⟨hs''.extBut _ _ ?_ z, (N' p hp).2⟩
    rcases List.mem_cons.mp hp with rfl | hp
    · exact Ne.symm hCD
    · exact offC p hp
theorem by_rest {elt : Expr} {x : Str} {scope : Scope} {cl : List (Str × Addr)} {S : List (Addr × Obj) → Prop} {Fin : List Value → List (Addr × Obj) → Prop} {news : List (Addr × Obj)} {b : Array UInt8} (g : Int → Int)
    (turn : ∀ k t I oI C oC D m₂ ys h tk (E' : Value → Shared → Prop), k ∈ KBw.bInts b → LCg.NsObj oC m₂ → m₂ x = some (.int k t) → Fr h₀ L h m → News h₀ L h ((I, oI) :: (C, oC) :: (D, LCg.lst ys) :: news) → LCg.Off3 I C D news → ((@Ne Nat I C) ∧ (@Ne Nat I D) ∧ (@Ne Nat C D)) → KPfMark →
      wpAny (model prog w) A (eval elt (compEnvC scope cl C env)) (LCg.CompEnd h₀ L m { s with heap := h, toks := tk } I oI C oC D (LCg.lst ys) S (fun y news' => KCfEl news (g k) y news')) E' { s with heap := h, toks := tk })
    (fin : KPfDone (∀ ys, IntsAre ys ((KBw.bInts b).map g) → Fin ys news)) : LCg.CompRest prog w A h₀ L m env elt x scope cl s S (fun i v => ∃ c u, b[i]? = some c ∧ v = .int (c.toNat : Int) u) Fin b.size 0 [] news :=
  kcf_rest (ks := KBw.bInts b) g (KBw.ints_length b) (fun i v _ hv => by
    obtain ⟨c, u, e, rfl⟩ := hv
    exact ⟨_, u, KBw.ints_get e, rfl⟩) turn fin
end
end Mine
-- part Tab53
set_option maxHeartbeats 1000000
namespace Mine
section
variable {prog : Program} {w : World} {A₀ A : Around} {s : Shared} {base h₀ : Heap} {outer : List Env} {L : Addr} {m mg mb : Str → Option Value} {env : Env} {news : List (Addr × Obj)} {K : Frag}
  {R : Result → Shared → Prop} {name qual : Str} {params : Arguments} {body : List Stmt} {scope : Scope} {dV kV doc pm cdv ct oc : Value} {an od : Option Addr} {osl : Array (Option Value)} {f : Addr} {args : Args} {binds : List (Str × Value)}
  {p : Program} {loose : List Str} {mean : ExcName → Option Value}
/-- a call whose body may change what the ledger names, and nothing else that stood -/
theorem code_led
    (B : Below A₀ base outer h₀) (F : Fr h₀ L s.heap m) (X₀ : K.In h₀) (N : News h₀ L s.heap news) (T : Top p loose mean mg mb h₀) (hA : A.frames = some (env :: outer)) (hf : env.frame = some L) (hke : env.scope.kind = .function)
    (ho : K.lookup f = some ⟨oc, od, .func (fnOf name qual params body scope dV kV doc pm an cdv ct), osl⟩) (hcd : codeIn K cdv qual = true) (hroom : A.depth < recursionLimit)
    (hbind : BindsTo s (fnOf name qual params body scope dV kV doc pm an cdv ct) args binds) (hloc : ∀ y ∈ binds, scope.names.lookup y.1 = some .local)
    (h : ∀ g L' h₁, (∀ b o, b ∉ news.map (·.1) → s.heap.get? b = some o → g.get? b = some o) → h₀.StaysIn g → Fr g L' h₁ (fun y => binds.reverse.lookup y) → News g L' h₁ news → Below A base (env :: outer) g → K.In g → Top p loose mean mg mb g →
      wpAny (model prog w) (A.deeper (envOf qual scope L' f cdv)) (execs body (envOf qual scope L' f cdv))
        (fun fl s' => LeaveK h₀ L m g (fun r s' => g.StaysIn s'.heap → R r s') (match fl with | .ret v => v | _ => .none) s')
        (fun e s' => wpAny (model prog w) (A.deeper (envOf qual scope L' f cdv)) (leaving (envOf qual scope L' f cdv) e) (fun _ s'' => R (.error e) s'') (fun e' s'' => R (.error e') s'') s')
        { s with heap := h₁, toks := s.toks + binds.length })
    (hco : scope.isCoroutine = false) (hgen : scope.isGenerator = false) (hk : scope.kind = .function)
    (hcell : ∀ x ∈ scope.names, x.2 ≠ .cell) : codeAny (model prog w) A (.call (.ref f) args) R s := by
  generalize hg : news.map (·.1) = adr at h
  obtain ⟨FG, BG, st, lv⟩ := groundX (R := fun r s' => (hideAll s.heap (news.map (·.1))).StaysIn s'.heap → R r s') B F N hA hf hke
  rw [hg] at FG BG st lv
  refine codeAny_call_def (fd := fnOf name qual params body scope dV kV doc pm an cdv ct) (body := body) (binds := binds) hroom ((X₀.keeps F.keep) _ _ ho) rfl (T.nolimit.keeps F.keep) (codeRec_of (X₀.keeps F.keep) hcd) rfl hbind hcell hloc (fun h₁ hns hk₁ => ?_) hco hgen hk
  refine wpAny_mono (h (hideAll s.heap adr) s.heap.objs.size h₁ (fun b o hb e => hideAll_get _ e hb) st ⟨hns, fun b o e => hk₁ b o (of_hideAll _ e), Nat.le_of_eq (hideAll_size _ _)⟩
    (fun p hp => ⟨hk₁ _ _ (N p hp).1, Nat.ne_of_lt (Heap.lt_size (N p hp).1), hideAll_none _ (hg ▸ List.mem_map_of_mem hp)⟩) BG (X₀.keeps st) (T.keeps st)) (fun fl s' hl => ?_) fun _ _ y => y
  refine lv _ _ hl ?_
  obtain ⟨L', m', news', F', _, _⟩ := hl
  exact fun b o e => F'.keep b o e
end
end Mine
namespace Mine
section
variable {prog : Program} {w : World} {A₀ A : Around} {s : Shared} {base h₀ : Heap} {outer : List Env} {L : Addr} {m mg mb : Str → Option Value} {env : Env} {K : Frag}
  {R : Result → Shared → Prop} {name qual : Str} {params : Arguments} {body : Expr} {scope : Scope} {pm ctv : Value} {c' f : Addr} {args : Args} {binds : List (Str × Value)}
  {p : Program} {loose : List Str} {mean : ExcName → Option Value}
/-- the call of a lambda that stands: all that stood stays -/
theorem code_lam (B : Below A₀ base outer h₀) (F : Fr h₀ L s.heap m) (X₀ : K.In h₀) (T : Top p loose mean mg mb h₀) (hA : A.frames = some (env :: outer)) (hf : env.frame = some L) (hke : env.scope.kind = .function)
    (ho : s.heap.get? f = some (kla_obj name qual params body scope [] pm c' ctv)) (hcd : s.heap.CodeRec (.ref c') qual) (hroom : A.depth < recursionLimit)
    (hbind : bindArgs (kla_fn name qual params body scope [] pm (.ref c') ctv) args = pure binds) (hloc : ∀ y ∈ binds, scope.names.lookup y.1 = some .local)
    (h : ∀ L' h₁, Fr s.heap L' h₁ (fun y => binds.reverse.lookup y) → News s.heap L' h₁ [] → Below A base (env :: outer) s.heap → K.In s.heap → Top p loose mean mg mb s.heap →
      wpAny (model prog w) (A.deeper (envX qual scope L' f (.ref c') [])) (eval body (envX qual scope L' f (.ref c') []))
        (fun v s' => LeaveK h₀ L m s.heap (fun r s' => s.heap.StaysIn s'.heap → R r s') v s')
        (fun e s' => wpAny (model prog w) (A.deeper (envX qual scope L' f (.ref c') [])) (leaving (envX qual scope L' f (.ref c') []) e) (fun _ s'' => R (.error e) s'') (fun e' s'' => R (.error e') s'') s')
        { s with heap := h₁, toks := s.toks + binds.length })
    (hco : scope.isCoroutine = false) (hgen : scope.isGenerator = false) (hk : scope.kind = .function)
    (hcell : ∀ x ∈ scope.names, x.2 ≠ .cell) : codeAny (model prog w) A (.call (.ref f) args) R s := by
  obtain ⟨FG, BG, st, lv⟩ := groundX (R := fun r s' => s.heap.StaysIn s'.heap → R r s') B F (News.nil (h₀ := h₀) (L := L)) hA hf hke
  refine kla_callFunE hroom ho rfl hco hgen rfl hcd ?_
  rw [hbind]
  refine wpAny_pure (wpAny_newFunctionEnv hcell hloc (fun h₁ hns hsb => ⟨((T.nolimit).keeps F.keep).fresh _ hsb, ?_⟩) hk)
  show codeAny _ _ (.expr body (envX qual scope s.heap.objs.size f (.ref c') [])) _ _
  have hk₁ : ∀ b o, s.heap.get? b = some o → h₁.get? b = some o := fun b o e => hsb.extBut b o (Nat.ne_of_lt (Heap.lt_size e)) (Heap.get?_push_of_some _ e)
  refine kla_codeExpr (wpAny_mono (h s.heap.objs.size h₁ ⟨hns, hk₁, Nat.le_refl _⟩ News.nil BG (X₀.keeps st) (T.keeps st)) (fun v s' hl => ?_) fun _ _ y => y)
  refine lv _ _ hl ?_
  obtain ⟨L', m', news', F', _, _⟩ := hl
  exact fun b o e => F'.keep b o e
theorem codeRec_stays {h h' : Heap} {v : Value} {q : Str} (x : h.CodeRec v q) (S : h.StaysIn h') : h'.CodeRec v q := x.keeps S
end
end Mine
-- part Digs53
set_option maxHeartbeats 4000000
namespace Mine
theorem i2aV {w : World} {mean : ExcName → Option Value} {mg mb : Str → Option Value} (n : Int) (t : Tok) (hn : n.natAbs < 4294967296)
  (dp un : Nat) (gd : Option (List Code)) (cn : Str) (cs : Scope) (a : Addr) (ccd : Value) (cl : List (Str × Addr)) (outer : List Env) (A₀ : Around) (base h₀ : Heap) (L : Addr) (m : Str → Option Value) (s : Shared) (Q E : Value → Shared → Prop)
  (B : Below A₀ base outer h₀) (F : Fr h₀ L s.heap m) (X : (hd.heap_39 w.params).In h₀) (T : Top topProg (looseW hd.view_39 [Str.ofString "_initial_missing", Str.ofString "reduce", Str.ofString "_filemode_table"] ++ List.map (fun x => x.name) (recsOf hd.view_39) ++ List.map (fun x => x.fst) (litsOf hd.view_39) ++ List.map (fun x => x.name) (clssOf hd.view_39 (looseW hd.view_39 [Str.ofString "_initial_missing", Str.ofString "reduce", Str.ofString "_filemode_table"]))) mean mg mb h₀) (hk : cs.kind = .function)
  (hdp : dp + 1 < recursionLimit) (hun : un + 8 < cLine)
  (hQ : ∀ t' h' tk', s.heap.StaysIn h' → Q (.bytes (apL n.natAbs).toArray t') { s with heap := h', toks := tk' }) :
  wpAny (model PySem.Challenge.rw_nq0053_01.prog w) (ktrTop dp un gd cn cs L a ccd cl outer) (call (.ref 21) [.int n t]) Q E s := by
  have e : (if n < 0 then -n else n).toNat = n.natAbs := by split <;> omega
  refine i2a n t ?_ dp un gd cn cs a ccd cl outer A₀ base h₀ L m s Q E B F X T hk hdp hun ?_
  · have : (2 : Int) ^ 32 = 4294967296 := by decide
    rw [this]; split <;> omega
  · rw [e]; exact hQ
/-- the digits by sixteen, the first one not nought -/
def digs (n : Nat) : List Int := if n = 0 then [] else digs (n / 16) ++ [((n % 16 : Nat) : Int)]
termination_by n
theorem digs_zero : digs 0 = [] := by rw [digs]; rfl
theorem digs_pos {n : Nat} (h : n ≠ 0) : digs n = digs (n / 16) ++ [((n % 16 : Nat) : Int)] := by rw [digs, if_neg h]
theorem ap_digs (n : Nat) : KBw.bInts (apL n).toArray = (digs n).map (fun k => k + 65) := by
  rw [KBw.ints_list]
  induction n using Nat.strongRecOn with
  | ind n ih =>
    by_cases h : n = 0
    · subst h; rw [apL_zero, digs_zero]; rfl
    · rw [apL_pos h, digs_pos h, List.map_append, List.map_append, ih (n / 16) (by omega)]
      congr 1
      simp only [List.map_cons, List.map_nil, List.cons.injEq, and_true]
      have h1 : (UInt8.ofNat (65 + n % 16)).toNat = 65 + n % 16 := by
        rw [UInt8.toNat_ofNat']; omega
      rw [h1]; omega
theorem digs_in (n : Nat) : ∀ x ∈ digs n, 0 ≤ x ∧ x < 16 := by
  induction n using Nat.strongRecOn with
  | ind n ih =>
    by_cases h : n = 0
    · subst h; rw [digs_zero]; intro x hx; cases hx
    · rw [digs_pos h]
      intro x hx
      rcases List.mem_append.mp hx with hx | hx
      · exact ih (n / 16) (by omega) x hx
      · rw [List.mem_singleton.mp hx]; omega
theorem digs_len {n : Nat} (h : n < 4294967296) : (digs n).length ≤ 8 := by
  have e : (digs n).length = (apL n).length := by
    have := congrArg List.length (ap_digs n)
    rw [KBw.ints_list, List.length_map, List.length_map] at this
    exact this.symm
  rw [e]
  exact apL_len 8 n (by have : (16 : Nat) ^ 8 = 4294967296 := by decide
                        omega)
theorem digs_fold (n : Nat) : (digs n).foldl hx 0 = (n : Int) := by
  induction n using Nat.strongRecOn with
  | ind n ih =>
    by_cases h : n = 0
    · subst h; rw [digs_zero]; rfl
    · rw [digs_pos h, List.foldl_append, ih (n / 16) (by omega)]
      show ((n / 16 : Nat) : Int) * 16 + ((n % 16 : Nat) : Int) = n
      omega
theorem digs_head (n : Nat) : (digs n).dropWhile (· == 0) = digs n := by
  have key : ∀ n, n ≠ 0 → ∃ d r, digs n = d :: r ∧ d ≠ 0 := by
    intro n
    induction n using Nat.strongRecOn with
    | ind n ih =>
      intro h
      by_cases h16 : n / 16 = 0
      · refine ⟨((n % 16 : Nat) : Int), [], ?_, by omega⟩
        rw [digs_pos h, h16, digs_zero]; rfl
      · obtain ⟨d, r, e, hd⟩ := ih (n / 16) (by omega) h16
        exact ⟨d, r ++ [((n % 16 : Nat) : Int)], by rw [digs_pos h, e]; rfl, hd⟩
  by_cases h : n = 0
  · subst h; rw [digs_zero]; rfl
  · obtain ⟨d, r, e, hd⟩ := key n h
    rw [e, List.dropWhile_cons, if_neg (by simpa using hd)]
theorem byteArr_bInts (b : Array UInt8) : byteArr (KBw.bInts b) = b := by
  unfold byteArr KBw.bInts
  rw [List.map_map]
  have : ((fun n : Int => n.toNat.toUInt8) ∘ fun c : UInt8 => (c.toNat : Int)) = id := by
    funext c
    simp
  rw [this, List.map_id, Array.toArray_toList]
theorem bare_digs (n : Nat) : byteArr (bareN (digs n)) = (apL n).toArray := by
  unfold bareN
  rw [digs_head, ← ap_digs, byteArr_bInts]
theorem places_eq (n : Nat) : (KBw.bInts (apL n).toArray).map (fun k => k - 65) = digs n := by
  rw [ap_digs, List.map_map]
  have : ((fun k : Int => k - 65) ∘ fun k : Int => k + 65) = id := by
    funext k; simp
  rw [this, List.map_id]
end Mine
-- part Last53
set_option maxHeartbeats 1000000
namespace Mine
/-- the k last digits -/
def pad : Nat → Nat → List Int
  | 0, _ => []
  | k + 1, n => pad k (n / 16) ++ [((n % 16 : Nat) : Int)]
theorem pad_zero : ∀ k, pad k 0 = List.replicate k 0
  | 0 => rfl
  | k + 1 => by
    show pad k (0 / 16) ++ [((0 % 16 : Nat) : Int)] = _
    rw [Nat.zero_div, pad_zero k, List.replicate_succ']
    rfl
theorem last_pad : ∀ k n, (List.replicate k (0 : Int) ++ digs n).drop (digs n).length = pad k n
  | 0, n => by simp [pad]
  | k + 1, n => by
    by_cases h : n = 0
    · subst h; rw [digs_zero, pad_zero]; simp
    · rw [digs_pos h, List.replicate_succ, List.length_append, List.cons_append, List.length_singleton, List.drop_succ_cons, ← List.append_assoc, List.drop_append_of_le_length (by simp), last_pad k (n / 16)]
      rfl
theorem last_eq (n : Nat) : ([0, 0, 0, 0] ++ digs n).drop (([0, 0, 0, 0] ++ digs n).length - 4) = [((n / 4096 % 16 : Nat) : Int), ((n / 256 % 16 : Nat) : Int), ((n / 16 % 16 : Nat) : Int), ((n % 16 : Nat) : Int)] := by
  have h := last_pad 4 n
  have e : ([0, 0, 0, 0] ++ digs n : List Int).length - 4 = (digs n).length := by
    rw [List.length_append]; simp
  rw [e]
  show (List.replicate 4 (0 : Int) ++ digs n).drop (digs n).length = _
  rw [h]
  simp [pad, Nat.div_div_eq_div_mul]
theorem ints4 {ws : List Value} {a b c d : Int} (h : IntsAre ws [a, b, c, d]) : ∃ t1 t2 t3 t4, ws = [.int a t1, .int b t2, .int c t3, .int d t4] := by
  cases h with
  | cons _ t1 h => cases h with
    | cons _ t2 h => cases h with
      | cons _ t3 h => cases h with
        | cons _ t4 h => cases h with
          | nil => exact ⟨t1, t2, t3, t4, rfl⟩
end Mine
-- part Plain53
set_option maxHeartbeats 1000000
namespace Mine
theorem and16 (n b : Nat) : n &&& b = 16 * ((n / 16) &&& (b / 16)) + ((n % 16) &&& (b % 16)) := by
  have h1 : (n &&& b) / 16 = (n / 16) &&& (b / 16) := Nat.and_div_two_pow (n := 4)
  have h2 : (n &&& b) % 16 = (n % 16) &&& (b % 16) := Nat.and_mod_two_pow (n := 4)
  omega
theorem bitAnd_nat (n b : Nat) : Builtin.bitAnd (n : Int) (b : Int) = ((n &&& b : Nat) : Int) := by
  unfold Builtin.bitAnd
  have h1 : decide (0 ≤ (n : Int)) = true := decide_eq_true (by omega)
  have h2 : decide (0 ≤ (b : Int)) = true := decide_eq_true (by omega)
  rw [h1, h2]
  rfl
theorem and_15 {x : Nat} (h : x < 16) : x &&& 15 = x := by
  have := Nat.and_two_pow_sub_one_eq_mod x 4
  have e : 2 ^ 4 - 1 = 15 := by decide
  rw [e] at this
  rw [this]; omega
theorem and_61440 (n : Nat) : n &&& 61440 = n / 4096 % 16 * 4096 := by
  rw [and16, and16 (n / 16), and16 (n / 16 / 16)]
  have e1 : 61440 % 16 = 0 := by decide
  have e2 : 61440 / 16 % 16 = 0 := by decide
  have e3 : 61440 / 16 / 16 % 16 = 0 := by decide
  have e4 : 61440 / 16 / 16 / 16 = 15 := by decide
  simp only [e1, e2, e3, e4, Nat.and_zero]
  have h := Nat.and_two_pow_sub_one_eq_mod (n / 16 / 16 / 16) 4
  have e : 2 ^ 4 - 1 = 15 := by decide
  rw [e] at h
  rw [h]
  omega
theorem and_4095 (n : Nat) : n &&& 4095 = n % 4096 := by
  have h := Nat.and_two_pow_sub_one_eq_mod n 12
  have e : 2 ^ 12 - 1 = 4095 := by decide
  rw [e] at h
  rw [h]
theorem bitAnd_61440 {mode : Int} (h : 0 ≤ mode) : Builtin.bitAnd mode 61440 = ((mode.natAbs / 4096 % 16 * 4096 : Nat) : Int) := by
  have e : mode = (mode.natAbs : Int) := by omega
  rw [← and_61440, ← bitAnd_nat, ← e]
  rfl
theorem bitAnd_4095 {mode : Int} (h : 0 ≤ mode) : Builtin.bitAnd mode 4095 = ((mode.natAbs % 4096 : Nat) : Int) := by
  have e : mode = (mode.natAbs : Int) := by omega
  rw [← and_4095, ← bitAnd_nat, ← e]
  rfl
/-- Int2AP of the kind's bits, and of the rights' -/
theorem digs_append (k : Nat) : ∀ n, (List.replicate k (0 : Int) ++ digs n).dropWhile (· == 0) = digs n := by
  intro n
  induction k with
  | zero => rw [List.replicate_zero, List.nil_append]; exact digs_head n
  | succ k ih => rw [List.replicate_succ, List.cons_append, List.dropWhile_cons]; simpa using ih
theorem pad_digs : ∀ k n, n < 16 ^ k → (pad k n).dropWhile (· == 0) = digs n := by
  intro k
  have key : ∀ k n, n < 16 ^ k → ∃ j, pad k n = List.replicate j 0 ++ digs n := by
    intro k
    induction k with
    | zero => intro n h; have : n = 0 := by omega
              subst this; exact ⟨0, by rw [digs_zero]; rfl⟩
    | succ k ih =>
      intro n h
      by_cases h0 : n = 0
      · subst h0; exact ⟨k + 1, by rw [pad_zero, digs_zero, List.append_nil]⟩
      · obtain ⟨j, e⟩ := ih (n / 16) (by rw [Nat.pow_succ] at h; omega)
        refine ⟨j, ?_⟩
        rw [digs_pos h0, ← List.append_assoc, ← e]
        rfl
  intro n h
  obtain ⟨j, e⟩ := key k n h
  rw [e, digs_append]
theorem ap_of_pad {k n : Nat} {l : List Int} (hl : pad k n = l) (h : n < 16 ^ k) : (apL n == (byteArr (bareN l)).toList) = true := by
  subst hl
  unfold bareN
  rw [pad_digs k n h, ← ap_digs, byteArr_bInts]
  simp
theorem ap_kind {mode : Int} (h : 0 ≤ mode) : (apL (Builtin.bitAnd mode 61440).natAbs == (byteArr (bareN [((mode.natAbs / 4096 % 16 : Nat) : Int), 0, 0, 0])).toList) = true := by
  rw [bitAnd_61440 h, Int.natAbs_natCast]
  refine ap_of_pad (k := 4) ?_ (by have : (16 : Nat) ^ 4 = 65536 := by decide
                                   omega)
  simp only [pad, List.nil_append, List.cons_append, List.cons.injEq, and_true]
  refine ⟨by omega, by omega, by omega, by omega⟩
theorem ap_rights {mode : Int} (h : 0 ≤ mode) : (apL (Builtin.bitAnd mode 4095).natAbs == (byteArr (bareN [((mode.natAbs / 256 % 16 : Nat) : Int), ((mode.natAbs / 16 % 16 : Nat) : Int), ((mode.natAbs % 16 : Nat) : Int)])).toList) = true := by
  rw [bitAnd_4095 h, Int.natAbs_natCast]
  refine ap_of_pad (k := 3) ?_ (by have : (16 : Nat) ^ 3 = 4096 := by decide
                                   omega)
  simp only [pad, List.nil_append, List.cons_append, List.cons.injEq, and_true]
  refine ⟨by omega, by omega, by omega⟩
end Mine
-- part FmRow53
set_option maxHeartbeats 2000000
namespace Mine
def b4 (d3 d2 d1 d0 b : Nat) : Nat := 4096 * (d3 &&& (b / 4096)) + 256 * (d2 &&& (b / 256 % 16)) + 16 * (d1 &&& (b / 16 % 16)) + (d0 &&& (b % 16))
theorem and_b4 (n b : Nat) (hb : b < 65536) : n &&& b = b4 (n / 4096 % 16) (n / 256 % 16) (n / 16 % 16) (n % 16) b := by
  have h1 := and16 n b
  have h2 := and16 (n / 16) (b / 16)
  have h3 := and16 (n / 16 / 16) (b / 16 / 16)
  have h4 := and16 (n / 16 / 16 / 16) (b / 16 / 16 / 16)
  have z : b / 16 / 16 / 16 / 16 = 0 := by omega
  rw [z, Nat.and_zero] at h4
  have e1 : n / 16 / 16 / 16 = n / 4096 := by omega
  have e2 : n / 16 / 16 = n / 256 := by omega
  have e3 : b / 16 / 16 / 16 % 16 = b / 4096 := by omega
  have e4 : b / 16 / 16 = b / 256 := by omega
  unfold b4
  rw [e3, e1] at h4
  rw [e1, e2, e4] at h3
  rw [e2, e4] at h2
  rw [e4] at h4
  omega
def qb (d3 d2 d1 d0 : Nat) (b : Int) : Bool := decide (b4 d3 d2 d1 d0 b.toNat = b.toNat)
theorem pick_congr {rows : List PRow} {q q' : Int → Bool} {d : Str} (h : ∀ r ∈ rows, q r.b = q' r.b) : pickC rows q d = pickC rows q' d := by
  have e : rows.find? (fun r => q r.b) = rows.find? (fun r => q' r.b) := by
    induction rows with
    | nil => rfl
    | cons r rs ih =>
      rw [List.find?_cons, List.find?_cons, h r (List.mem_cons_self ..), ih fun r' h' => h r' (List.mem_cons_of_mem _ h')]
  unfold pickC
  rw [e]
theorem q_bits {mode : Int} (hm : 0 ≤ mode) {b : Int} (h0 : 0 ≤ b) (h1 : b < 65536) : decide (Builtin.bitAnd mode b = b) = qb (mode.natAbs / 4096 % 16) (mode.natAbs / 256 % 16) (mode.natAbs / 16 % 16) (mode.natAbs % 16) b := by
  obtain ⟨k, rfl⟩ : ∃ k : Nat, b = (k : Int) := ⟨b.toNat, by omega⟩
  have e : mode = (mode.natAbs : Int) := by omega
  unfold qb
  rw [Int.toNat_natCast, ← and_b4 _ _ (by omega)]
  conv => lhs; rw [e, bitAnd_nat]
  exact decide_eq_decide.mpr (by omega)
theorem q_kind {mode : Int} (hm : 0 ≤ mode) (b : Int) : decide (Builtin.bitAnd mode 61440 = b) = decide (((mode.natAbs / 4096 % 16 * 4096 : Nat) : Int) = b) := by rw [bitAnd_61440 hm]
def rowsAt (i : Nat) : List PRow := (tabs53.getD i (0, [])).2
theorem small_rows : ∀ p ∈ tabs53, ∀ r ∈ p.2, 0 ≤ r.b ∧ r.b < 65536 := by
  have : (tabs53.all fun p => p.2.all fun r => decide (0 ≤ r.b ∧ r.b < 65536)) = true := by decide +kernel
  intro p hp r hr
  exact of_decide_eq_true (List.all_eq_true.mp (List.all_eq_true.mp this p hp) r hr)
theorem mask (d3 d2 d1 d0 e3 e2 e1 e0 : Nat) {rows : List PRow} {d : Str}
    (h : ∀ r ∈ rows, (d3 = e3 ∨ r.b.toNat / 4096 = 0) ∧ (d2 = e2 ∨ r.b.toNat / 256 % 16 = 0) ∧ (d1 = e1 ∨ r.b.toNat / 16 % 16 = 0) ∧ (d0 = e0 ∨ r.b.toNat % 16 = 0)) : pickC rows (qb d3 d2 d1 d0) d = pickC rows (qb e3 e2 e1 e0) d := by
  refine pick_congr fun r hr => ?_
  obtain ⟨h3, h2, h1, h0⟩ := h r hr
  unfold qb b4
  have z : ∀ {x y c : Nat}, x = y ∨ c = 0 → x &&& c = y &&& c := by
    rintro x y c (rfl | rfl)
    · rfl
    · rw [Nat.and_zero, Nat.and_zero]
  rw [z h3, z h2, z h1, z h0]
theorem t0 : ∀ d3 : Fin 16, pickC (rowsAt 0) (fun b => decide (((d3.val * 4096 : Nat) : Int) = b)) (Str.ofString "?") = Txt.item (Str.ofString "?pc?d?b?-?l?s???") ((d3.val : Nat) : Int) := by decide +kernel
theorem t1 : ∀ d2 : Fin 16, pickC (rowsAt 1) (qb 0 d2.val 0 0) (Str.ofString "-") = Txt.item (Str.ofString "-r") (((d2.val : Nat) : Int).fmod 2) := by decide +kernel
theorem t2 : ∀ d1 : Fin 16, pickC (rowsAt 2) (qb 0 0 d1.val 0) (Str.ofString "-") = Txt.item (Str.ofString "-w") (((d1.val : Nat) : Int).fdiv 8) := by decide +kernel
theorem t3 : ∀ d2 d1 : Fin 16, pickC (rowsAt 3) (qb 0 d2.val d1.val 0) (Str.ofString "-") = Txt.item (Str.ofString "-xSs") ((((d1.val : Nat) : Int).fdiv 4).fmod 2 + 2 * (((d2.val : Nat) : Int).fdiv 8)) := by decide +kernel
theorem t4 : ∀ d1 : Fin 16, pickC (rowsAt 4) (qb 0 0 d1.val 0) (Str.ofString "-") = Txt.item (Str.ofString "-r") ((((d1.val : Nat) : Int).fdiv 2).fmod 2) := by decide +kernel
theorem t5 : ∀ d1 : Fin 16, pickC (rowsAt 5) (qb 0 0 d1.val 0) (Str.ofString "-") = Txt.item (Str.ofString "-w") (((d1.val : Nat) : Int).fmod 2) := by decide +kernel
theorem t6 : ∀ d2 d0 : Fin 16, pickC (rowsAt 6) (qb 0 d2.val 0 d0.val) (Str.ofString "-") = Txt.item (Str.ofString "-xSs") (((d0.val : Nat) : Int).fdiv 8 + 2 * (((d2.val : Nat) : Int).fdiv 4).fmod 2) := by decide +kernel
theorem t7 : ∀ d0 : Fin 16, pickC (rowsAt 7) (qb 0 0 0 d0.val) (Str.ofString "-") = Txt.item (Str.ofString "-r") ((((d0.val : Nat) : Int).fdiv 4).fmod 2) := by decide +kernel
theorem t8 : ∀ d0 : Fin 16, pickC (rowsAt 8) (qb 0 0 0 d0.val) (Str.ofString "-") = Txt.item (Str.ofString "-w") ((((d0.val : Nat) : Int).fdiv 2).fmod 2) := by decide +kernel
theorem t9 : ∀ d2 d0 : Fin 16, pickC (rowsAt 9) (qb 0 d2.val 0 d0.val) (Str.ofString "-") = Txt.item (Str.ofString "-xTt") (((d0.val : Nat) : Int).fmod 2 + 2 * (((d2.val : Nat) : Int).fdiv 2).fmod 2) := by decide +kernel
theorem out_list (mode : Int) : outTexts (fmC mode) tabs53 = [fmC mode 0 (rowsAt 0), fmC mode 1 (rowsAt 1), fmC mode 2 (rowsAt 2), fmC mode 3 (rowsAt 3), fmC mode 4 (rowsAt 4), fmC mode 5 (rowsAt 5), fmC mode 6 (rowsAt 6), fmC mode 7 (rowsAt 7), fmC mode 8 (rowsAt 8), fmC mode 9 (rowsAt 9)] := rfl
theorem join10 (a b c d e f g h i j : Str) : Txt.join (Str.ofString "") [a, b, c, d, e, f, g, h, i, j] = a ++ (b ++ c ++ d) ++ (e ++ f ++ g) ++ (h ++ i ++ j) := by
  show Builtin.Str.glued _ _ = _
  have e0 : (Str.ofString "").cps = #[] := by decide +kernel
  unfold Builtin.Str.glued
  simp only [List.drop_succ_cons, List.drop_zero, List.foldl_cons, List.foldl_nil, List.headD_cons, e0, Array.append_empty]
  apply Str.ext'
  simp only [Str.cps_append, Array.append_assoc]
theorem fmC_pos {mode : Int} (hm : 0 ≤ mode) {i : Nat} (hi : i ≠ 0) (hr : ∀ r ∈ rowsAt i, 0 ≤ r.b ∧ r.b < 65536) :
    fmC mode i (rowsAt i) = pickC (rowsAt i) (qb (mode.natAbs / 4096 % 16) (mode.natAbs / 256 % 16) (mode.natAbs / 16 % 16) (mode.natAbs % 16)) (Str.ofString "-") := by
  unfold fmC fmD
  rw [if_neg hi]
  refine pick_congr fun r h => ?_
  unfold qf
  rw [if_neg hi]
  exact q_bits hm (hr r h).1 (hr r h).2
theorem rows_small (i : Nat) (h : i < 10) : ∀ r ∈ rowsAt i, 0 ≤ r.b ∧ r.b < 65536 := by
  have hp : tabs53.getD i (0, []) ∈ tabs53 := by
    have hl : i < tabs53.length := h
    have e : tabs53.getD i (0, []) = tabs53[i] := by simp [List.getD, hl]
    rw [e]
    exact List.getElem_mem _
  exact small_rows _ hp
theorem f1 {mode : Int} (hm : 0 ≤ mode) : fmC mode 1 (rowsAt 1) = Txt.item (Str.ofString "-r") (((mode.natAbs / 256 % 16 : Nat) : Int).fmod 2) := (fmC_pos hm (i := 1) (by decide) (rows_small 1 (by decide))).trans ((mask _ _ _ _ 0 (mode.natAbs / 256 % 16) 0 0 (by
  intro r hr
  refine ⟨.inr (of_decide_eq_true (List.all_eq_true.mp (show ((rowsAt 1).all fun r => decide (r.b.toNat / 4096 = 0)) = true by decide +kernel) r hr)), .inl rfl, .inr (of_decide_eq_true (List.all_eq_true.mp (show ((rowsAt 1).all fun r => decide (r.b.toNat / 16 % 16 = 0)) = true by decide +kernel) r hr)), .inr (of_decide_eq_true (List.all_eq_true.mp (show ((rowsAt 1).all fun r => decide (r.b.toNat % 16 = 0)) = true by decide +kernel) r hr))⟩)).trans (t1 ⟨(mode.natAbs / 256 % 16), by omega⟩))
theorem f2 {mode : Int} (hm : 0 ≤ mode) : fmC mode 2 (rowsAt 2) = Txt.item (Str.ofString "-w") (((mode.natAbs / 16 % 16 : Nat) : Int).fdiv 8) := (fmC_pos hm (i := 2) (by decide) (rows_small 2 (by decide))).trans ((mask _ _ _ _ 0 0 (mode.natAbs / 16 % 16) 0 (by
  intro r hr
  refine ⟨.inr (of_decide_eq_true (List.all_eq_true.mp (show ((rowsAt 2).all fun r => decide (r.b.toNat / 4096 = 0)) = true by decide +kernel) r hr)), .inr (of_decide_eq_true (List.all_eq_true.mp (show ((rowsAt 2).all fun r => decide (r.b.toNat / 256 % 16 = 0)) = true by decide +kernel) r hr)), .inl rfl, .inr (of_decide_eq_true (List.all_eq_true.mp (show ((rowsAt 2).all fun r => decide (r.b.toNat % 16 = 0)) = true by decide +kernel) r hr))⟩)).trans (t2 ⟨(mode.natAbs / 16 % 16), by omega⟩))
theorem f3 {mode : Int} (hm : 0 ≤ mode) : fmC mode 3 (rowsAt 3) = Txt.item (Str.ofString "-xSs") ((((mode.natAbs / 16 % 16 : Nat) : Int).fdiv 4).fmod 2 + 2 * (((mode.natAbs / 256 % 16 : Nat) : Int).fdiv 8)) := (fmC_pos hm (i := 3) (by decide) (rows_small 3 (by decide))).trans ((mask _ _ _ _ 0 (mode.natAbs / 256 % 16) (mode.natAbs / 16 % 16) 0 (by
  intro r hr
  refine ⟨.inr (of_decide_eq_true (List.all_eq_true.mp (show ((rowsAt 3).all fun r => decide (r.b.toNat / 4096 = 0)) = true by decide +kernel) r hr)), .inl rfl, .inl rfl, .inr (of_decide_eq_true (List.all_eq_true.mp (show ((rowsAt 3).all fun r => decide (r.b.toNat % 16 = 0)) = true by decide +kernel) r hr))⟩)).trans (t3 ⟨(mode.natAbs / 256 % 16), by omega⟩ ⟨(mode.natAbs / 16 % 16), by omega⟩))
theorem f4 {mode : Int} (hm : 0 ≤ mode) : fmC mode 4 (rowsAt 4) = Txt.item (Str.ofString "-r") ((((mode.natAbs / 16 % 16 : Nat) : Int).fdiv 2).fmod 2) := (fmC_pos hm (i := 4) (by decide) (rows_small 4 (by decide))).trans ((mask _ _ _ _ 0 0 (mode.natAbs / 16 % 16) 0 (by
  intro r hr
  refine ⟨.inr (of_decide_eq_true (List.all_eq_true.mp (show ((rowsAt 4).all fun r => decide (r.b.toNat / 4096 = 0)) = true by decide +kernel) r hr)), .inr (of_decide_eq_true (List.all_eq_true.mp (show ((rowsAt 4).all fun r => decide (r.b.toNat / 256 % 16 = 0)) = true by decide +kernel) r hr)), .inl rfl, .inr (of_decide_eq_true (List.all_eq_true.mp (show ((rowsAt 4).all fun r => decide (r.b.toNat % 16 = 0)) = true by decide +kernel) r hr))⟩)).trans (t4 ⟨(mode.natAbs / 16 % 16), by omega⟩))
theorem f5 {mode : Int} (hm : 0 ≤ mode) : fmC mode 5 (rowsAt 5) = Txt.item (Str.ofString "-w") (((mode.natAbs / 16 % 16 : Nat) : Int).fmod 2) := (fmC_pos hm (i := 5) (by decide) (rows_small 5 (by decide))).trans ((mask _ _ _ _ 0 0 (mode.natAbs / 16 % 16) 0 (by
  intro r hr
  refine ⟨.inr (of_decide_eq_true (List.all_eq_true.mp (show ((rowsAt 5).all fun r => decide (r.b.toNat / 4096 = 0)) = true by decide +kernel) r hr)), .inr (of_decide_eq_true (List.all_eq_true.mp (show ((rowsAt 5).all fun r => decide (r.b.toNat / 256 % 16 = 0)) = true by decide +kernel) r hr)), .inl rfl, .inr (of_decide_eq_true (List.all_eq_true.mp (show ((rowsAt 5).all fun r => decide (r.b.toNat % 16 = 0)) = true by decide +kernel) r hr))⟩)).trans (t5 ⟨(mode.natAbs / 16 % 16), by omega⟩))
theorem f6 {mode : Int} (hm : 0 ≤ mode) : fmC mode 6 (rowsAt 6) = Txt.item (Str.ofString "-xSs") (((mode.natAbs % 16 : Nat) : Int).fdiv 8 + 2 * (((mode.natAbs / 256 % 16 : Nat) : Int).fdiv 4).fmod 2) := (fmC_pos hm (i := 6) (by decide) (rows_small 6 (by decide))).trans ((mask _ _ _ _ 0 (mode.natAbs / 256 % 16) 0 (mode.natAbs % 16) (by
  intro r hr
  refine ⟨.inr (of_decide_eq_true (List.all_eq_true.mp (show ((rowsAt 6).all fun r => decide (r.b.toNat / 4096 = 0)) = true by decide +kernel) r hr)), .inl rfl, .inr (of_decide_eq_true (List.all_eq_true.mp (show ((rowsAt 6).all fun r => decide (r.b.toNat / 16 % 16 = 0)) = true by decide +kernel) r hr)), .inl rfl⟩)).trans (t6 ⟨(mode.natAbs / 256 % 16), by omega⟩ ⟨(mode.natAbs % 16), by omega⟩))
theorem f7 {mode : Int} (hm : 0 ≤ mode) : fmC mode 7 (rowsAt 7) = Txt.item (Str.ofString "-r") ((((mode.natAbs % 16 : Nat) : Int).fdiv 4).fmod 2) := (fmC_pos hm (i := 7) (by decide) (rows_small 7 (by decide))).trans ((mask _ _ _ _ 0 0 0 (mode.natAbs % 16) (by
  intro r hr
  refine ⟨.inr (of_decide_eq_true (List.all_eq_true.mp (show ((rowsAt 7).all fun r => decide (r.b.toNat / 4096 = 0)) = true by decide +kernel) r hr)), .inr (of_decide_eq_true (List.all_eq_true.mp (show ((rowsAt 7).all fun r => decide (r.b.toNat / 256 % 16 = 0)) = true by decide +kernel) r hr)), .inr (of_decide_eq_true (List.all_eq_true.mp (show ((rowsAt 7).all fun r => decide (r.b.toNat / 16 % 16 = 0)) = true by decide +kernel) r hr)), .inl rfl⟩)).trans (t7 ⟨(mode.natAbs % 16), by omega⟩))
theorem f8 {mode : Int} (hm : 0 ≤ mode) : fmC mode 8 (rowsAt 8) = Txt.item (Str.ofString "-w") ((((mode.natAbs % 16 : Nat) : Int).fdiv 2).fmod 2) := (fmC_pos hm (i := 8) (by decide) (rows_small 8 (by decide))).trans ((mask _ _ _ _ 0 0 0 (mode.natAbs % 16) (by
  intro r hr
  refine ⟨.inr (of_decide_eq_true (List.all_eq_true.mp (show ((rowsAt 8).all fun r => decide (r.b.toNat / 4096 = 0)) = true by decide +kernel) r hr)), .inr (of_decide_eq_true (List.all_eq_true.mp (show ((rowsAt 8).all fun r => decide (r.b.toNat / 256 % 16 = 0)) = true by decide +kernel) r hr)), .inr (of_decide_eq_true (List.all_eq_true.mp (show ((rowsAt 8).all fun r => decide (r.b.toNat / 16 % 16 = 0)) = true by decide +kernel) r hr)), .inl rfl⟩)).trans (t8 ⟨(mode.natAbs % 16), by omega⟩))
theorem f9 {mode : Int} (hm : 0 ≤ mode) : fmC mode 9 (rowsAt 9) = Txt.item (Str.ofString "-xTt") (((mode.natAbs % 16 : Nat) : Int).fmod 2 + 2 * (((mode.natAbs / 256 % 16 : Nat) : Int).fdiv 2).fmod 2) := (fmC_pos hm (i := 9) (by decide) (rows_small 9 (by decide))).trans ((mask _ _ _ _ 0 (mode.natAbs / 256 % 16) 0 (mode.natAbs % 16) (by
  intro r hr
  refine ⟨.inr (of_decide_eq_true (List.all_eq_true.mp (show ((rowsAt 9).all fun r => decide (r.b.toNat / 4096 = 0)) = true by decide +kernel) r hr)), .inl rfl, .inr (of_decide_eq_true (List.all_eq_true.mp (show ((rowsAt 9).all fun r => decide (r.b.toNat / 16 % 16 = 0)) = true by decide +kernel) r hr)), .inl rfl⟩)).trans (t9 ⟨(mode.natAbs / 256 % 16), by omega⟩ ⟨(mode.natAbs % 16), by omega⟩))
theorem f0 {mode : Int} (hm : 0 ≤ mode) : fmC mode 0 (rowsAt 0) = Txt.item (Str.ofString "?pc?d?b?-?l?s???") ((mode.natAbs / 4096 % 16 : Nat) : Int) := by
  have e : fmC mode 0 (rowsAt 0) = pickC (rowsAt 0) (fun b => decide (((mode.natAbs / 4096 % 16 * 4096 : Nat) : Int) = b)) (Str.ofString "?") := by
    unfold fmC fmD
    rw [if_pos rfl]
    refine pick_congr fun r h => ?_
    unfold qf
    rw [if_pos rfl]
    exact q_kind hm r.b
  exact e.trans (t0 ⟨mode.natAbs / 4096 % 16, by omega⟩)
theorem fm_row {mode : Int} (hm : 0 ≤ mode) : fmStr mode = rowS ((mode.natAbs / 4096 % 16 : Nat) : Int) ((mode.natAbs / 256 % 16 : Nat) : Int) ((mode.natAbs / 16 % 16 : Nat) : Int) ((mode.natAbs % 16 : Nat) : Int) := by
  unfold fmStr
  rw [out_list, join10, f0 hm, f1 hm, f2 hm, f3 hm, f4 hm, f5 hm, f6 hm, f7 hm, f8 hm, f9 hm]
  rfl
end Mine
-- part Right53
set_option maxHeartbeats 4000000
namespace Mine
def lamTab (c : Addr) : Array Value := #[rawInt 84, rawInt 41, .ref c]
def lamQual : Str := Str.ofString "_law_right" ++ Str.ofString ".<locals>." ++ Str.ofString "<lambda>"
/-- what _law_right leaves behind -/
abbrev RightPost (h₀ : Heap) (L : Addr) (s : Shared) (Q : Value → Shared → Prop) : Prop :=
  ∀ h' tk' c oc vs t', (∀ b o, b ≠ 112 → s.heap.get? b = some o → h'.get? b = some o ∧ b ≠ c) → News h₀ L h' [(112, tabObj (lamTab c)), (c, oc)] → oc.data = .fields vs → vs[1]? = some (.str lamQual t') → Q (.bool true) { s with heap := h', toks := tk' }
theorem ne_of_ground {g : Heap} {b c : Addr} {o : Obj} (h : g.get? b = some o) (hc : g.get? c = none) : b ≠ c := fun e => by rw [e, hc] at h; cases h
theorem right_end {h₀ g : Heap} {L : Addr} {s : Shared} {Q : Value → Shared → Prop} {h' : Heap} {tk' : Nat} {c : Addr} {oc : Obj} {vs : Array Value} {t' : Tok} {all : List (Addr × Obj)} {b : Bool} (hQ : RightPost h₀ L s Q) (hb : b = true)
    (hout : ∀ b o, b ≠ 112 → s.heap.get? b = some o → g.get? b = some o) (hst : g.StaysIn h') (N : News h₀ L h' all) {L' : Addr} (Ng : News g L' h' all) (h1 : (112, tabObj (lamTab c)) ∈ all) (h2 : (c, oc) ∈ all) (hd : oc.data = .fields vs) (hv : vs[1]? = some (.str lamQual t')) :
    Q (.bool b) { s with heap := h', toks := tk' } := by
  subst hb
  refine hQ h' tk' c oc vs t' (fun b o hb e => ⟨hst b o (hout b o hb e), ne_of_ground (hout b o hb e) (Ng _ h2).2.2⟩) (fun p hp => ?_) hd hv
  rcases List.mem_cons.mp hp with rfl | hp
  · exact N _ h1
  · rw [List.mem_singleton.mp hp]; exact N _ h2
section
set_option hygiene false in
local macro_rules | `(tactic| walk_at "call ref") => `(tactic| (k_here; (with_reducible show wpAny _ _ (call (Value.ref 110) [Value.ref _]) _ _ _); k_dflt (refine bare _ _ _ _ _ _ _ _ _ _ _ _ _ _ _ _ _ _ _ _ (News.isList (n := ys5.length) (items := ys5.toArray) (by k_asm) (by k_mem)) hys5 (digs_in _) (digs_len (by omega)) (by k_asm) (by k_asm) (by k_asm) (by k_asm) (by rfl) (by ktr_room) (by ktr_units) ?_); intro t9 h9 tk9 S9; (have F9 := frStays (by k_asm) S9); (have N9 := newsStays (by k_asm) S9); (try dsimp only)))
set_option hygiene false in
local macro_rules | `(tactic| walk_at "call ref") => `(tactic| (k_here; (with_reducible show wpAny _ _ (call (Value.ref 21) [Value.int _ _]) _ _ _); k_dflt (refine i2aV _ _ (by omega) _ _ _ _ _ _ _ _ _ _ _ _ _ _ _ _ _ (by k_asm) (by k_asm) (by k_asm) (by k_asm) (by rfl) (by ktr_room) (by ktr_units) ?_); intro t9 h9 tk9 S9; (have F9 := frStays (by k_asm) S9); (have N9 := newsStays (by k_asm) S9); (try dsimp only)))
local macro_rules | `(tactic| walk_at "exec Assign cons ListComp") => `(tactic| (k_here; k_dflt (refine assign_lc_bytes (F₀ := by k_asm) (by rfl) (by with_unfolding_all rfl) (by with_unfolding_all rfl) (by decide) (by rfl) (by decide) (by rfl) (by rfl) (by rfl) ?_)))
set_option hygiene false in
local macro_rules | `(tactic| walk_at "BySrc") => `(tactic| (k_here; k_dflt (refine ⟨_, _, _, rfl, rfl, (by k_asm), (by k_asm), (by rw [PySem.sizeLine_eq, ← KBw.ints_length, ap_digs, List.length_map]; have := digs_len (n := mode.natAbs) (by omega); omega), ?_⟩; intro g'; refine by_rest (fun k => k - 65) (fun k' t' I' oI' C' oC' D' m' ys' h' tk' E' hk' hC' hx' F' N' off' ne' hMark' => ?_) ?_; (all_goals (try (simp only [LCg.Off3, and_true] at off'))); kcf_last)))
theorem filter_no {ns : List Int} (g : Int → Int) : (ns.filter fun _ => false).map g = [] := by simp
set_option hygiene false in
local macro_rules | `(tactic| walk_at "KPfDone") => `(tactic| (unfold KPfDone; intro ys5 hys5; rw [places_eq] at hys5))
local macro_rules | `(tactic| walk_at "eval ListComp") => `(tactic| (k_here; k_dflt (refine LCt.ListComp_T (F₀ := by k_asm) (by with_unfolding_all rfl) (by decide) (by rfl) (by decide) (by rfl) ?_)))
set_option hygiene false in
local macro_rules | `(tactic| walk_at "CompSrcT") => `(tactic| (k_here; k_dflt (refine LCt.CompSrcT.ledger (by rfl) (by k_asm) (by k_asm) (List.Mem.head _) (kmk_sz hys5 (by rw [PySem.sizeLine_eq]; have := digs_len (n := mode.natAbs) (by omega); omega)) ?_; intro g'; (refine cft_list (fun _ => false) (fun k => k) hys5 (fun k' t' I' oI' C' oC' D' m' ys' h' tk' E' hk' hC' hx' F' N' off' ne' => ?_) ?_); (all_goals (try (simp only [LCg.Off3, and_true] at off'))); (case' refine_1 => (obtain ⟨hlo6, hhi6⟩ := digs_in _ _ hk')); (case' refine_2 => (intro ys6 hys6; rw [filter_no] at hys6)); kcf_last)))
local macro_rules | `(tactic| walk_at "CompEnd") => `(tactic| first
  | (refine LCg.CompEnd.intro (by assumption) (by assumption) _ (by kcf_all) (by first | assumption | (simp only [LCg.Off3, and_true]; first | done | assumption)) (by first | lcg_src | assumption) ⟨?_, kcf_el rfl rfl rfl⟩)
  | (refine LCg.CompEnd.intro (by assumption) (by assumption) _ (by kcf_all) (by first | assumption | (simp only [LCg.Off3, and_true]; first | done | assumption)) (by first | lcg_src | assumption) ⟨?_, rfl⟩)
  | kcf_end)
local macro_rules | `(tactic| walk_at "call type:type") => `(tactic| (k_here; (with_reducible show wpAny _ _ (call _ [Value.bytes _ _]) _ _ _); refine call_type_of (Tx := "bytes") rfl (by decide +kernel) ?_))
set_option hygiene false in
local macro_rules | `(tactic| walk_at "call ref") => `(tactic| (k_here; (with_reducible show wpAny _ _ (call (Value.ref 30) [Value.ref _, Value.ref _, Value.int _ _]) _ _ _); k_dflt (refine red _ _ ys5 (digs mode.natAbs) _ _ _ _ _ _ _ _ _ _ _ _ _ _ _ _ _ _ ?lam _ _ (News.get (by k_asm) (List.Mem.head _)) rfl (News.isList (n := ys5.length) (items := ys5.toArray) (by k_asm) (by k_mem)) hys5 (digs_in _) (digs_len (by omega)) (by k_asm) (by k_asm) (by k_asm) (by k_asm) (by rfl) (by ktr_room) (by ktr_units) ?rest); (case' lam => (intro x7 y7 t7 u7 dp7 un7 gd7 cn7 cs7 a7 ccd7 cl7 outer7 A7 base7 h07 L7 m7 s7 Q7 E7 hx0 hx1 hy0 hy1 S7 B7 F7 X7 T7 hk7 hdp7 hun7 hQ7; refine wpAny_call ?_; k_dflt (refine code_lam B7 F7 X7 T7 rfl rfl hk7 (S7 _ _ (News.get (by k_asm) (List.Mem.head _))) (codeRec_stays (codeRec_news (by k_asm) (by k_mem) (by assumption) (by assumption)) S7) (by ktr_room) rfl (locs rfl) ?_ rfl rfl rfl (by decide)); intro L8 h8 F8 N8 B8 X8 T8; (try dsimp only))); (case' rest => (intro t9 h9 tk9 S9; (have F9 := frStays (by k_asm) S9); (have N9 := newsStays (by k_asm) S9); (try dsimp only)))))
set_option hygiene false in
local macro_rules | `(tactic| walk_at "binaryOp Add ref ref") => `(tactic| (k_here; (with_reducible show wpAny _ _ (binaryOp _ (Value.ref _) (Value.ref _)) _ _ _); k_dflt (refine kmk_add_ints (by k_asm) (by k_asm) (News.isList (by k_asm) (List.Mem.head _)) (News.isList (n := ys5.length) (items := ys5.toArray) (by k_asm) (by k_mem)) (IntsAre.cons 0 _ (.cons 0 _ (.cons 0 _ (.cons 0 _ .nil)))) hys5 ?_ (by rw [PySem.sizeLine_eq]; have := digs_len (n := mode.natAbs) (by omega); simp only [List.length_cons, List.length_nil, hys5.length]; omega)); intro D5 ws5 h5 F5 N5 l5 hI5; (try k_lt l5)))
set_option hygiene false in
local macro_rules | `(tactic| walk_at "subscriptTail Name Slice ref ref") => `(tactic| (k_here; k_dflt (refine kmk_slice_ints (by k_asm) (by k_asm) (News.isList (by k_asm) (List.Mem.head _)) (by kmk_part) (by kmk_part) hI5 (kmk_from_neg hI5 (by decide)) rfl ?_ (by with_unfolding_all rfl) (by kmk_pure) (kmk_sz hI5 (by rw [PySem.sizeLine_eq]; have := digs_len (n := mode.natAbs) (by omega); simp only [List.length_append, List.length_cons, List.length_nil]; omega))); intro D6 ws6 h6 F6 N6 l6 hI6 hC6 hL6; (try k_lt l6); (simp only [Int.reduceNeg, Int.neg_neg, Int.reduceToNat] at hI6); rw [last_eq] at hI6; clear hC6 hL6; obtain ⟨t61, t62, t63, t64, hw6⟩ := ints4 hI6; subst hw6))
set_option hygiene false in
local macro_rules | `(tactic| walk_at "call ref") => `(tactic| (k_here; (with_reducible show wpAny _ _ (call (Value.ref 84) [Value.int _ _]) _ _ _); k_dflt (refine fmode _ _ hm0 hm1 _ _ _ _ _ _ _ _ _ _ _ _ _ _ _ _ _ (by k_asm) (by k_asm) (by k_asm) (by k_asm) (by rfl) (by ktr_room) (by ktr_units) ?_); intro t9 h9 tk9 S9; (have F9 := frStays (by k_asm) S9); (have N9 := newsStays (by k_asm) S9); (try dsimp only)))
set_option hygiene false in
local macro_rules | `(tactic| walk_at "call ref") => `(tactic| (k_here; (with_reducible show wpAny _ _ (call (Value.ref 105) [Value.int _ _, Value.int _ _, Value.int _ _, Value.int _ _]) _ _ _); k_dflt (refine lrow ((mode.natAbs / 4096 % 16 : Nat) : Int) ((mode.natAbs / 256 % 16 : Nat) : Int) ((mode.natAbs / 16 % 16 : Nat) : Int) ((mode.natAbs % 16 : Nat) : Int) _ _ _ _ (by omega) (by omega) (by omega) (by omega) (by omega) (by omega) (by omega) (by omega) _ _ _ _ _ _ _ _ _ _ _ _ _ _ _ _ _ (by k_asm) (by k_asm) (by k_asm) (by k_asm) (by rfl) (by ktr_room) (by ktr_units) ?_); intro t9 h9 tk9 S9; (have F9 := frStays (by k_asm) S9); (have N9 := newsStays (by k_asm) S9); (try dsimp only)))
set_option hygiene false in
local macro_rules | `(tactic| walk_at "call ref") => `(tactic| (k_here; (with_reducible show wpAny _ _ (call (Value.ref 44) [Value.int _ _]) _ _ _); k_dflt (refine ifmt _ _ _ _ _ _ _ _ _ _ _ _ _ _ _ _ _ _ _ (by k_asm) (by k_asm) (by k_asm) (by k_asm) (by rfl) (by ktr_room) (by ktr_units) ?_); intro t9 h9 tk9 S9; (have F9 := frStays (by k_asm) S9); (have N9 := newsStays (by k_asm) S9); (try dsimp only)))
set_option hygiene false in
local macro_rules | `(tactic| walk_at "call ref") => `(tactic| (k_here; (with_reducible show wpAny _ _ (call (Value.ref 37) [Value.int _ _]) _ _ _); k_dflt (refine imode _ _ _ _ _ _ _ _ _ _ _ _ _ _ _ _ _ _ _ (by k_asm) (by k_asm) (by k_asm) (by k_asm) (by rfl) (by ktr_room) (by ktr_units) ?_); intro t9 h9 tk9 S9; (have F9 := frStays (by k_asm) S9); (have N9 := newsStays (by k_asm) S9); (try dsimp only)))
set_option hygiene false in
local macro_rules | `(tactic| walk_at "subscriptTail Name Slice ref ref") => `(tactic| (k_here; k_dflt (refine kmk_slice_ints (by k_asm) (by k_asm) (News.isList (n := 0) (items := List.toArray [Value.int _ t61, Value.int _ t62, Value.int _ t63, Value.int _ t64]) (by k_asm) (by k_mem)) (by kmk_part) (by kmk_part) hI6 (by first | exact kmk_upto hI6 (by decide) | exact kmk_from hI6 (by decide)) rfl ?_ (by with_unfolding_all rfl) (by kmk_pure) (kmk_sz hI6 (by decide))); intro D7 ws7 h7 F7 N7 l7 hI7 hC7 hL7; (try k_lt l7); (simp only [Int.reduceToNat, List.take_succ_cons, List.take_zero, List.drop_succ_cons, List.drop_zero] at hI7); clear hC7 hL7))
set_option hygiene false in
local macro_rules | `(tactic| walk_at "binaryOp Add ref ref") => `(tactic| (k_here; (with_reducible show wpAny _ _ (binaryOp _ (Value.ref _) (Value.ref _)) _ _ _); k_dflt (refine kmk_add_ints (by k_asm) (by k_asm) (News.isList (n := 0) (items := ws7.toArray) (by k_asm) (by k_mem)) (News.isList (by k_asm) (List.Mem.head _)) hI7 (IntsAre.cons 0 _ (.cons 0 _ (.cons 0 _ .nil))) ?_ (by decide)); intro D8 ws8 h8 F8 N8 l8 hI8; (try k_lt l8); (simp only [List.cons_append, List.nil_append] at hI8)))
set_option hygiene false in
local macro_rules | `(tactic| walk_at "call ref") => `(tactic| (k_here; (with_reducible show wpAny _ _ (call (Value.ref 110) [Value.ref _]) _ _ _); k_dflt (first | refine bare _ ws8 _ _ _ _ _ _ _ _ _ _ _ _ _ _ _ _ _ _ (News.isList (n := 0) (items := ws8.toArray) (by k_asm) (by k_mem)) hI8 (by intro x hx; simp only [List.mem_cons, List.not_mem_nil, or_false] at hx; omega) (Nat.le_of_ble_eq_true rfl) (by k_asm) (by k_asm) (by k_asm) (by k_asm) (by rfl) (by ktr_room) (by ktr_units) ?_ | refine bare _ ws7 _ _ _ _ _ _ _ _ _ _ _ _ _ _ _ _ _ _ (News.isList (n := 0) (items := ws7.toArray) (by k_asm) (by k_mem)) hI7 (by intro x hx; simp only [List.mem_cons, List.not_mem_nil, or_false] at hx; omega) (Nat.le_of_ble_eq_true rfl) (by k_asm) (by k_asm) (by k_asm) (by k_asm) (by rfl) (by ktr_room) (by ktr_units) ?_); intro t9 h9 tk9 S9; (have F9 := frStays (by k_asm) S9); (have N9 := newsStays (by k_asm) S9); (try dsimp only)))
set_option hygiene false in
local macro_rules | `(tactic| walk_at "call ref") => `(tactic| (k_here; (with_reducible show wpAny _ _ (call (Value.ref 110) [Value.ref _]) _ _ _); k_dflt (first | refine bare _ [Value.int _ _, Value.int _ _, Value.int _ _, Value.int _ _] _ _ _ _ _ _ _ _ _ _ _ _ _ _ _ _ _ _ (News.isList (by k_asm) (List.Mem.head _)) (.cons _ _ (.cons _ _ (.cons _ _ (.cons _ _ .nil)))) (by intro x hx; simp only [List.mem_cons, List.not_mem_nil, or_false] at hx; omega) (Nat.le_of_ble_eq_true rfl) (by k_asm) (by k_asm) (by k_asm) (by k_asm) (by rfl) (by ktr_room) (by ktr_units) ?_ | refine bare _ [Value.int _ _, Value.int _ _, Value.int _ _] _ _ _ _ _ _ _ _ _ _ _ _ _ _ _ _ _ _ (News.isList (by k_asm) (List.Mem.head _)) (.cons _ _ (.cons _ _ (.cons _ _ .nil))) (by intro x hx; simp only [List.mem_cons, List.not_mem_nil, or_false] at hx; omega) (Nat.le_of_ble_eq_true rfl) (by k_asm) (by k_asm) (by k_asm) (by k_asm) (by rfl) (by ktr_room) (by ktr_units) ?_); intro t9 h9 tk9 S9; (have F9 := frStays (by k_asm) S9); (have N9 := newsStays (by k_asm) S9); (try dsimp only)))
theorem right0 {w : World} {mean : ExcName → Option Value} {mg mb : Str → Option Value} (mode : Int) (t : Tok) (hm0 : 0 ≤ mode) (hm1 : mode < 4294967296)
  (dp un : Nat) (gd : Option (List Code)) (cn : Str) (cs : Scope) (a : Addr) (ccd : Value) (cl : List (Str × Addr)) (outer : List Env) (A₀ : Around) (base h₀ : Heap) (L : Addr) (m : Str → Option Value) (s : Shared) (Q E : Value → Shared → Prop)
  (B : Below A₀ base outer h₀) (F : Fr h₀ L s.heap m) (X : (hd.heap_39 w.params).In h₀) (T : Top topProg (looseW hd.view_39 [Str.ofString "_initial_missing", Str.ofString "reduce", Str.ofString "_filemode_table"] ++ List.map (fun x => x.name) (recsOf hd.view_39) ++ List.map (fun x => x.fst) (litsOf hd.view_39) ++ List.map (fun x => x.name) (clssOf hd.view_39 (looseW hd.view_39 [Str.ofString "_initial_missing", Str.ofString "reduce", Str.ofString "_filemode_table"]))) mean mg mb h₀) (hC : CodeHd h₀ 114 112) (N : News h₀ L s.heap [(112, tabObj #[])]) (hk : cs.kind = .function)
  (hdp : dp + 3 < recursionLimit) (hun : un + 200 < cLine)
  (hQ : RightPost h₀ L s Q) :
  wpAny (model PySem.Challenge.rw_nq0053_01.prog w) (ktrTop dp un gd cn cs L a ccd cl outer) (call (.ref 115) [.int mode t]) Q E s := by
  w_top off
  k_with_none
  refine wpAny_call ?_
  revert X
  k_fill
  intro X
  (refine' code_led ?k1 ?k2 ?k3 ?k4 ?k5 ?kA ?kF ?kK ?k6 ?k7 ?k8 ?k9 ?kB ?_ ?c2 ?c3 ?c4 ?c5; (case kA => exact rfl); (case kF => exact rfl); (case kK => assumption); (case k1 => k_asm); (case k2 => k_asm); (case k3 => k_asm); (case k4 => exact N); (case k5 => k_asm); (case k6 => k_is); (case k7 => k_is); (case k8 => ktr_room); (case k9 => exact BindsTo.of_eq rfl); (case c5 => decide); (case kB => exact locs rfl); (case c2 => exact rfl); (case c3 => exact rfl); (case c4 => exact rfl); k_whole; intro g L' h' hout hst0 F' N' B' X' T'; (try dsimp only); (try k_lift B'); (try k_fold))
  have hC' : CodeHd g 114 112 := CodeHd.keeps hC hst0
  clear hC
  have hneg : (0 - mode).natAbs = mode.natAbs := by omega
  have hb1 : ((apL (0 - mode).natAbs).toArray.toList != (apL mode.natAbs).toArray.toList) = false := by rw [hneg]; simp
  have hb3 : ((digs mode.natAbs).foldl hx 0 != mode) = false := by rw [digs_fold]; simp; omega
  have hA1 : Builtin.bitAnd mode 61440 = ((mode.natAbs / 4096 % 16 * 4096 : Nat) : Int) := bitAnd_61440 hm0
  have hA2 : Builtin.bitAnd mode 4095 = ((mode.natAbs % 4096 : Nat) : Int) := bitAnd_4095 hm0
  have hb4 : (fmStr mode != rowS ((mode.natAbs / 4096 % 16 : Nat) : Int) ((mode.natAbs / 256 % 16 : Nat) : Int) ((mode.natAbs / 16 % 16 : Nat) : Int) ((mode.natAbs % 16 : Nat) : Int)) = false := by rw [fm_row hm0]; simp
  have hb5 := ap_kind hm0
  have hb6 := ap_rights hm0
  have hout' : ∀ b o, b ≠ 112 → s.heap.get? b = some o → g.get? b = some o := fun b o hb e => hout b o (by simpa using hb) e
  have hb2 : ((apL mode.natAbs).toArray.toList != (byteArr (bareN (digs mode.natAbs))).toList) = false := by rw [bare_digs]; simp
  repeat' (first | (k_unfold; (try dsimp only)) | walk1 | (dsimp only; walk1))
  all_goals first
    | exact hQ7 _ _ _ (by assumption)
    | exact right_end hQ hb5 hout' (by assumption) (by assumption) (by assumption) (by k_mem) (by k_mem) (by assumption) (by assumption)
    | exact right_end hQ hb6 hout' (by assumption) (by assumption) (by assumption) (by k_mem) (by k_mem) (by assumption) (by assumption)
end
end Mine
-- part Right53b
set_option maxHeartbeats 4000000
namespace Mine
abbrev RightPost1 (h₀ : Heap) (L : Addr) (s : Shared) (c₁ : Addr) (Q : Value → Shared → Prop) : Prop :=
  ∀ h' tk' c oc vs t', (∀ b o, b ≠ 112 → b ≠ c₁ → s.heap.get? b = some o → h'.get? b = some o ∧ b ≠ c) → News h₀ L h' [(112, tabObj (lamTab c)), (c, oc)] → oc.data = .fields vs → vs[1]? = some (.str lamQual t') → Q (.bool true) { s with heap := h', toks := tk' }
theorem right_end1 {h₀ g : Heap} {L c₁ : Addr} {s : Shared} {Q : Value → Shared → Prop} {h' : Heap} {tk' : Nat} {c : Addr} {oc : Obj} {vs : Array Value} {t' : Tok} {all : List (Addr × Obj)} {b : Bool} (hQ : RightPost1 h₀ L s c₁ Q) (hb : b = true)
    (hout : ∀ b o, b ≠ 112 → b ≠ c₁ → s.heap.get? b = some o → g.get? b = some o) (hst : g.StaysIn h') (N : News h₀ L h' all) {L' : Addr} (Ng : News g L' h' all) (h1 : (112, tabObj (lamTab c)) ∈ all) (h2 : (c, oc) ∈ all) (hd : oc.data = .fields vs) (hv : vs[1]? = some (.str lamQual t')) :
    Q (.bool b) { s with heap := h', toks := tk' } := by
  subst hb
  refine hQ h' tk' c oc vs t' (fun b o hb hb' e => ⟨hst b o (hout b o hb hb' e), ne_of_ground (hout b o hb hb' e) (Ng _ h2).2.2⟩) (fun p hp => ?_) hd hv
  rcases List.mem_cons.mp hp with rfl | hp
  · exact N _ h1
  · rw [List.mem_singleton.mp hp]; exact N _ h2
section
local macro_rules | `(tactic| walk_at "pad53") => `(tactic| skip)
set_option hygiene false in
local macro_rules | `(tactic| walk_at "call ref") => `(tactic| (k_here; (with_reducible show wpAny _ _ (call (Value.ref 110) [Value.ref _]) _ _ _); k_dflt (refine bare _ _ _ _ _ _ _ _ _ _ _ _ _ _ _ _ _ _ _ _ (News.isList (n := ys5.length) (items := ys5.toArray) (by k_asm) (by k_mem)) hys5 (digs_in _) (digs_len (by omega)) (by k_asm) (by k_asm) (by k_asm) (by k_asm) (by rfl) (by ktr_room) (by ktr_units) ?_); intro t9 h9 tk9 S9; (have F9 := frStays (by k_asm) S9); (have N9 := newsStays (by k_asm) S9); (try dsimp only)))
set_option hygiene false in
local macro_rules | `(tactic| walk_at "call ref") => `(tactic| (k_here; (with_reducible show wpAny _ _ (call (Value.ref 21) [Value.int _ _]) _ _ _); k_dflt (refine i2aV _ _ (by omega) _ _ _ _ _ _ _ _ _ _ _ _ _ _ _ _ _ (by k_asm) (by k_asm) (by k_asm) (by k_asm) (by rfl) (by ktr_room) (by ktr_units) ?_); intro t9 h9 tk9 S9; (have F9 := frStays (by k_asm) S9); (have N9 := newsStays (by k_asm) S9); (try dsimp only)))
local macro_rules | `(tactic| walk_at "exec Assign cons ListComp") => `(tactic| (k_here; k_dflt (refine assign_lc_bytes (F₀ := by k_asm) (by rfl) (by with_unfolding_all rfl) (by with_unfolding_all rfl) (by decide) (by rfl) (by decide) (by rfl) (by rfl) (by rfl) ?_)))
set_option hygiene false in
local macro_rules | `(tactic| walk_at "BySrc") => `(tactic| (k_here; k_dflt (refine ⟨_, _, _, rfl, rfl, (by k_asm), (by k_asm), (by rw [PySem.sizeLine_eq, ← KBw.ints_length, ap_digs, List.length_map]; have := digs_len (n := mode.natAbs) (by omega); omega), ?_⟩; intro g'; refine by_rest (fun k => k - 65) (fun k' t' I' oI' C' oC' D' m' ys' h' tk' E' hk' hC' hx' F' N' off' ne' hMark' => ?_) ?_; (all_goals (try (simp only [LCg.Off3, and_true] at off'))); kcf_last)))
theorem filter_no1 {ns : List Int} (g : Int → Int) : (ns.filter fun _ => false).map g = [] := by simp
set_option hygiene false in
local macro_rules | `(tactic| walk_at "KPfDone") => `(tactic| (unfold KPfDone; intro ys5 hys5; rw [places_eq] at hys5))
local macro_rules | `(tactic| walk_at "eval ListComp") => `(tactic| (k_here; k_dflt (refine LCt.ListComp_T (F₀ := by k_asm) (by with_unfolding_all rfl) (by decide) (by rfl) (by decide) (by rfl) ?_)))
set_option hygiene false in
local macro_rules | `(tactic| walk_at "CompSrcT") => `(tactic| (k_here; k_dflt (refine LCt.CompSrcT.ledger (by rfl) (by k_asm) (by k_asm) (List.Mem.head _) (kmk_sz hys5 (by rw [PySem.sizeLine_eq]; have := digs_len (n := mode.natAbs) (by omega); omega)) ?_; intro g'; (refine cft_list (fun _ => false) (fun k => k) hys5 (fun k' t' I' oI' C' oC' D' m' ys' h' tk' E' hk' hC' hx' F' N' off' ne' => ?_) ?_); (all_goals (try (simp only [LCg.Off3, and_true] at off'))); (case' refine_1 => (obtain ⟨hlo6, hhi6⟩ := digs_in _ _ hk')); (case' refine_2 => (intro ys6 hys6; rw [filter_no1] at hys6)); kcf_last)))
local macro_rules | `(tactic| walk_at "CompEnd") => `(tactic| first
  | (refine LCg.CompEnd.intro (by assumption) (by assumption) _ (by kcf_all) (by first | assumption | (simp only [LCg.Off3, and_true]; first | done | assumption)) (by first | lcg_src | assumption) ⟨?_, kcf_el rfl rfl rfl⟩)
  | (refine LCg.CompEnd.intro (by assumption) (by assumption) _ (by kcf_all) (by first | assumption | (simp only [LCg.Off3, and_true]; first | done | assumption)) (by first | lcg_src | assumption) ⟨?_, rfl⟩)
  | kcf_end)
local macro_rules | `(tactic| walk_at "call type:type") => `(tactic| (k_here; (with_reducible show wpAny _ _ (call _ [Value.bytes _ _]) _ _ _); refine call_type_of (Tx := "bytes") rfl (by decide +kernel) ?_))
set_option hygiene false in
local macro_rules | `(tactic| walk_at "call ref") => `(tactic| (k_here; (with_reducible show wpAny _ _ (call (Value.ref 30) [Value.ref _, Value.ref _, Value.int _ _]) _ _ _); k_dflt (refine red _ _ ys5 (digs mode.natAbs) _ _ _ _ _ _ _ _ _ _ _ _ _ _ _ _ _ _ ?lam _ _ (News.get (by k_asm) (List.Mem.head _)) rfl (News.isList (n := ys5.length) (items := ys5.toArray) (by k_asm) (by k_mem)) hys5 (digs_in _) (digs_len (by omega)) (by k_asm) (by k_asm) (by k_asm) (by k_asm) (by rfl) (by ktr_room) (by ktr_units) ?rest); (case' lam => (intro x7 y7 t7 u7 dp7 un7 gd7 cn7 cs7 a7 ccd7 cl7 outer7 A7 base7 h07 L7 m7 s7 Q7 E7 hx0 hx1 hy0 hy1 S7 B7 F7 X7 T7 hk7 hdp7 hun7 hQ7; refine wpAny_call ?_; k_dflt (refine code_lam B7 F7 X7 T7 rfl rfl hk7 (S7 _ _ (News.get (by k_asm) (List.Mem.head _))) (codeRec_stays (codeRec_news (by k_asm) (by k_mem) (by assumption) (by assumption)) S7) (by ktr_room) rfl (locs rfl) ?_ rfl rfl rfl (by decide)); intro L8 h8 F8 N8 B8 X8 T8; (try dsimp only))); (case' rest => (intro t9 h9 tk9 S9; (have F9 := frStays (by k_asm) S9); (have N9 := newsStays (by k_asm) S9); (try dsimp only)))))
set_option hygiene false in
local macro_rules | `(tactic| walk_at "binaryOp Add ref ref") => `(tactic| (k_here; (with_reducible show wpAny _ _ (binaryOp _ (Value.ref _) (Value.ref _)) _ _ _); k_dflt (refine kmk_add_ints (by k_asm) (by k_asm) (News.isList (by k_asm) (List.Mem.head _)) (News.isList (n := ys5.length) (items := ys5.toArray) (by k_asm) (by k_mem)) (IntsAre.cons 0 _ (.cons 0 _ (.cons 0 _ (.cons 0 _ .nil)))) hys5 ?_ (by rw [PySem.sizeLine_eq]; have := digs_len (n := mode.natAbs) (by omega); simp only [List.length_cons, List.length_nil, hys5.length]; omega)); intro D5 ws5 h5 F5 N5 l5 hI5; (try k_lt l5)))
set_option hygiene false in
local macro_rules | `(tactic| walk_at "subscriptTail Name Slice ref ref") => `(tactic| (k_here; k_dflt (refine kmk_slice_ints (by k_asm) (by k_asm) (News.isList (by k_asm) (List.Mem.head _)) (by kmk_part) (by kmk_part) hI5 (kmk_from_neg hI5 (by decide)) rfl ?_ (by with_unfolding_all rfl) (by kmk_pure) (kmk_sz hI5 (by rw [PySem.sizeLine_eq]; have := digs_len (n := mode.natAbs) (by omega); simp only [List.length_append, List.length_cons, List.length_nil]; omega))); intro D6 ws6 h6 F6 N6 l6 hI6 hC6 hL6; (try k_lt l6); (simp only [Int.reduceNeg, Int.neg_neg, Int.reduceToNat] at hI6); rw [last_eq] at hI6; clear hC6 hL6; obtain ⟨t61, t62, t63, t64, hw6⟩ := ints4 hI6; subst hw6))
set_option hygiene false in
local macro_rules | `(tactic| walk_at "call ref") => `(tactic| (k_here; (with_reducible show wpAny _ _ (call (Value.ref 84) [Value.int _ _]) _ _ _); k_dflt (refine fmode _ _ hm0 hm1 _ _ _ _ _ _ _ _ _ _ _ _ _ _ _ _ _ (by k_asm) (by k_asm) (by k_asm) (by k_asm) (by rfl) (by ktr_room) (by ktr_units) ?_); intro t9 h9 tk9 S9; (have F9 := frStays (by k_asm) S9); (have N9 := newsStays (by k_asm) S9); (try dsimp only)))
set_option hygiene false in
local macro_rules | `(tactic| walk_at "call ref") => `(tactic| (k_here; (with_reducible show wpAny _ _ (call (Value.ref 105) [Value.int _ _, Value.int _ _, Value.int _ _, Value.int _ _]) _ _ _); k_dflt (refine lrow ((mode.natAbs / 4096 % 16 : Nat) : Int) ((mode.natAbs / 256 % 16 : Nat) : Int) ((mode.natAbs / 16 % 16 : Nat) : Int) ((mode.natAbs % 16 : Nat) : Int) _ _ _ _ (by omega) (by omega) (by omega) (by omega) (by omega) (by omega) (by omega) (by omega) _ _ _ _ _ _ _ _ _ _ _ _ _ _ _ _ _ (by k_asm) (by k_asm) (by k_asm) (by k_asm) (by rfl) (by ktr_room) (by ktr_units) ?_); intro t9 h9 tk9 S9; (have F9 := frStays (by k_asm) S9); (have N9 := newsStays (by k_asm) S9); (try dsimp only)))
set_option hygiene false in
local macro_rules | `(tactic| walk_at "call ref") => `(tactic| (k_here; (with_reducible show wpAny _ _ (call (Value.ref 44) [Value.int _ _]) _ _ _); k_dflt (refine ifmt _ _ _ _ _ _ _ _ _ _ _ _ _ _ _ _ _ _ _ (by k_asm) (by k_asm) (by k_asm) (by k_asm) (by rfl) (by ktr_room) (by ktr_units) ?_); intro t9 h9 tk9 S9; (have F9 := frStays (by k_asm) S9); (have N9 := newsStays (by k_asm) S9); (try dsimp only)))
set_option hygiene false in
local macro_rules | `(tactic| walk_at "call ref") => `(tactic| (k_here; (with_reducible show wpAny _ _ (call (Value.ref 37) [Value.int _ _]) _ _ _); k_dflt (refine imode _ _ _ _ _ _ _ _ _ _ _ _ _ _ _ _ _ _ _ (by k_asm) (by k_asm) (by k_asm) (by k_asm) (by rfl) (by ktr_room) (by ktr_units) ?_); intro t9 h9 tk9 S9; (have F9 := frStays (by k_asm) S9); (have N9 := newsStays (by k_asm) S9); (try dsimp only)))
set_option hygiene false in
local macro_rules | `(tactic| walk_at "subscriptTail Name Slice ref ref") => `(tactic| (k_here; k_dflt (refine kmk_slice_ints (by k_asm) (by k_asm) (News.isList (n := 0) (items := List.toArray [Value.int _ t61, Value.int _ t62, Value.int _ t63, Value.int _ t64]) (by k_asm) (by k_mem)) (by kmk_part) (by kmk_part) hI6 (by first | exact kmk_upto hI6 (by decide) | exact kmk_from hI6 (by decide)) rfl ?_ (by with_unfolding_all rfl) (by kmk_pure) (kmk_sz hI6 (by decide))); intro D7 ws7 h7 F7 N7 l7 hI7 hC7 hL7; (try k_lt l7); (simp only [Int.reduceToNat, List.take_succ_cons, List.take_zero, List.drop_succ_cons, List.drop_zero] at hI7); clear hC7 hL7))
set_option hygiene false in
local macro_rules | `(tactic| walk_at "binaryOp Add ref ref") => `(tactic| (k_here; (with_reducible show wpAny _ _ (binaryOp _ (Value.ref _) (Value.ref _)) _ _ _); k_dflt (refine kmk_add_ints (by k_asm) (by k_asm) (News.isList (n := 0) (items := ws7.toArray) (by k_asm) (by k_mem)) (News.isList (by k_asm) (List.Mem.head _)) hI7 (IntsAre.cons 0 _ (.cons 0 _ (.cons 0 _ .nil))) ?_ (by decide)); intro D8 ws8 h8 F8 N8 l8 hI8; (try k_lt l8); (simp only [List.cons_append, List.nil_append] at hI8)))
set_option hygiene false in
local macro_rules | `(tactic| walk_at "call ref") => `(tactic| (k_here; (with_reducible show wpAny _ _ (call (Value.ref 110) [Value.ref _]) _ _ _); k_dflt (first | refine bare _ ws8 _ _ _ _ _ _ _ _ _ _ _ _ _ _ _ _ _ _ (News.isList (n := 0) (items := ws8.toArray) (by k_asm) (by k_mem)) hI8 (by intro x hx; simp only [List.mem_cons, List.not_mem_nil, or_false] at hx; omega) (Nat.le_of_ble_eq_true rfl) (by k_asm) (by k_asm) (by k_asm) (by k_asm) (by rfl) (by ktr_room) (by ktr_units) ?_ | refine bare _ ws7 _ _ _ _ _ _ _ _ _ _ _ _ _ _ _ _ _ _ (News.isList (n := 0) (items := ws7.toArray) (by k_asm) (by k_mem)) hI7 (by intro x hx; simp only [List.mem_cons, List.not_mem_nil, or_false] at hx; omega) (Nat.le_of_ble_eq_true rfl) (by k_asm) (by k_asm) (by k_asm) (by k_asm) (by rfl) (by ktr_room) (by ktr_units) ?_); intro t9 h9 tk9 S9; (have F9 := frStays (by k_asm) S9); (have N9 := newsStays (by k_asm) S9); (try dsimp only)))
set_option hygiene false in
local macro_rules | `(tactic| walk_at "call ref") => `(tactic| (k_here; (with_reducible show wpAny _ _ (call (Value.ref 110) [Value.ref _]) _ _ _); k_dflt (first | refine bare _ [Value.int _ _, Value.int _ _, Value.int _ _, Value.int _ _] _ _ _ _ _ _ _ _ _ _ _ _ _ _ _ _ _ _ (News.isList (by k_asm) (List.Mem.head _)) (.cons _ _ (.cons _ _ (.cons _ _ (.cons _ _ .nil)))) (by intro x hx; simp only [List.mem_cons, List.not_mem_nil, or_false] at hx; omega) (Nat.le_of_ble_eq_true rfl) (by k_asm) (by k_asm) (by k_asm) (by k_asm) (by rfl) (by ktr_room) (by ktr_units) ?_ | refine bare _ [Value.int _ _, Value.int _ _, Value.int _ _] _ _ _ _ _ _ _ _ _ _ _ _ _ _ _ _ _ _ (News.isList (by k_asm) (List.Mem.head _)) (.cons _ _ (.cons _ _ (.cons _ _ .nil))) (by intro x hx; simp only [List.mem_cons, List.not_mem_nil, or_false] at hx; omega) (Nat.le_of_ble_eq_true rfl) (by k_asm) (by k_asm) (by k_asm) (by k_asm) (by rfl) (by ktr_room) (by ktr_units) ?_); intro t9 h9 tk9 S9; (have F9 := frStays (by k_asm) S9); (have N9 := newsStays (by k_asm) S9); (try dsimp only)))
theorem right1 {w : World} {mean : ExcName → Option Value} {mg mb : Str → Option Value} (mode : Int) (t : Tok) (hm0 : 0 ≤ mode) (hm1 : mode < 4294967296)
  (dp un : Nat) (gd : Option (List Code)) (cn : Str) (cs : Scope) (a : Addr) (ccd : Value) (cl : List (Str × Addr)) (outer : List Env) (A₀ : Around) (base h₀ : Heap) (L : Addr) (m : Str → Option Value) (s : Shared) (Q E : Value → Shared → Prop)
  (B : Below A₀ base outer h₀) (F : Fr h₀ L s.heap m) (X : (hd.heap_39 w.params).In h₀) (T : Top topProg (looseW hd.view_39 [Str.ofString "_initial_missing", Str.ofString "reduce", Str.ofString "_filemode_table"] ++ List.map (fun x => x.name) (recsOf hd.view_39) ++ List.map (fun x => x.fst) (litsOf hd.view_39) ++ List.map (fun x => x.name) (clssOf hd.view_39 (looseW hd.view_39 [Str.ofString "_initial_missing", Str.ofString "reduce", Str.ofString "_filemode_table"]))) mean mg mb h₀) (hC : CodeHd h₀ 114 112) {c₁ : Addr} {oc₁ : Obj} {vs₁ : Array Value} {t₁ : Tok} (N : News h₀ L s.heap [(112, tabObj #[rawInt 84, rawInt 41, .ref c₁]), (c₁, oc₁)]) (hoc₁ : oc₁.data = .fields vs₁) (hvs₁ : vs₁[1]? = some (.str lamQual t₁)) (hk : cs.kind = .function)
  (hdp : dp + 3 < recursionLimit) (hun : un + 200 < cLine)
  (hQ : RightPost1 h₀ L s c₁ Q) :
  wpAny (model PySem.Challenge.rw_nq0053_01.prog w) (ktrTop dp un gd cn cs L a ccd cl outer) (call (.ref 115) [.int mode t]) Q E s := by
  w_top off
  k_with_none
  refine wpAny_call ?_
  revert X
  k_fill
  intro X
  (refine' code_led ?k1 ?k2 ?k3 ?k4 ?k5 ?kA ?kF ?kK ?k6 ?k7 ?k8 ?k9 ?kB ?_ ?c2 ?c3 ?c4 ?c5; (case kA => exact rfl); (case kF => exact rfl); (case kK => assumption); (case k1 => k_asm); (case k2 => k_asm); (case k3 => k_asm); (case k4 => exact N); (case k5 => k_asm); (case k6 => k_is); (case k7 => k_is); (case k8 => ktr_room); (case k9 => exact BindsTo.of_eq rfl); (case c5 => decide); (case kB => exact locs rfl); (case c2 => exact rfl); (case c3 => exact rfl); (case c4 => exact rfl); k_whole; intro g L' h' hout hst0 F' N' B' X' T'; (try dsimp only); (try k_lift B'); (try k_fold))
  have hC' : CodeHd g 114 112 := CodeHd.keeps hC hst0
  clear hC
  have hneg : (0 - mode).natAbs = mode.natAbs := by omega
  have hb1 : ((apL (0 - mode).natAbs).toArray.toList != (apL mode.natAbs).toArray.toList) = false := by rw [hneg]; simp
  have hb3 : ((digs mode.natAbs).foldl hx 0 != mode) = false := by rw [digs_fold]; simp; omega
  have hA1 : Builtin.bitAnd mode 61440 = ((mode.natAbs / 4096 % 16 * 4096 : Nat) : Int) := bitAnd_61440 hm0
  have hA2 : Builtin.bitAnd mode 4095 = ((mode.natAbs % 4096 : Nat) : Int) := bitAnd_4095 hm0
  have hb4 : (fmStr mode != rowS ((mode.natAbs / 4096 % 16 : Nat) : Int) ((mode.natAbs / 256 % 16 : Nat) : Int) ((mode.natAbs / 16 % 16 : Nat) : Int) ((mode.natAbs % 16 : Nat) : Int)) = false := by rw [fm_row hm0]; simp
  have hb5 := ap_kind hm0
  have hb6 := ap_rights hm0
  have hout' : ∀ b o, b ≠ 112 → b ≠ c₁ → s.heap.get? b = some o → g.get? b = some o := fun b o hb hb' e => hout b o (by simp [hb, hb']) e
  have hb2 : ((apL mode.natAbs).toArray.toList != (byteArr (bareN (digs mode.natAbs))).toList) = false := by rw [bare_digs]; simp
  repeat' (first | (k_unfold; (try dsimp only)) | walk1 | (dsimp only; walk1))
  all_goals first
    | exact hQ7 _ _ _ (by assumption)
    | exact right_end1 hQ hb5 hout' (by assumption) (by assumption) (by assumption) (by k_mem) (by k_mem) (by assumption) (by assumption)
    | exact right_end1 hQ hb6 hout' (by assumption) (by assumption) (by assumption) (by k_mem) (by k_mem) (by assumption) (by assumption)
end
end Mine
-- part Law53
set_option maxHeartbeats 4000000
namespace Mine
section
variable {prog : Program} {w : World} {A : Around} {h₀ : Heap} {L : Addr} {m : Str → Option Value} {env : Env} {ct elt : Expr} {x : Str} {scope : Scope} {cl : List (Str × Addr)} {s : Shared} {S : List (Addr × Obj) → Prop} {P : Nat → Value → Prop} {Fin : List Value → List (Addr × Obj) → Prop} {news : List (Addr × Obj)}
/-- a turn whose test says no; the ledger may have changed within its kind -/
def NoEnd (h₀ : Heap) (L : Addr) (m : Str → Option Value) (s : Shared) (I : Addr) (oI : Obj) (C : Addr) (oC : Obj) (D : Addr) (S J : List (Addr × Obj) → Prop) (ok : Bool) (s' : Shared) : Prop :=
  ok = false ∧ ∃ h' tk' news', s' = { s with heap := h', toks := tk' } ∧ Fr h₀ L h' m ∧ News h₀ L h' ((I, oI) :: (C, oC) :: (D, LCg.lst []) :: news') ∧ LCg.Off3 I C D news' ∧ S news' ∧ J news'
theorem cft_none {n : Nat} {ks : List Int} (J : List (Addr × Obj) → Prop) (hks : ks.length = n) (hP : ∀ i v, i < n → P i v → ∃ k t, ks[i]? = some k ∧ v = .int k t) (hJ : J news)
    (turn : ∀ news, J news → ∀ k t I oI C oC D m₂ h tk (E' : Value → Shared → Prop), k ∈ ks → LCg.NsObj oC m₂ → m₂ x = some (.int k t) → Fr h₀ L h m → News h₀ L h ((I, oI) :: (C, oC) :: (D, LCg.lst []) :: news) → LCg.Off3 I C D news → ((@Ne Nat I C) ∧ (@Ne Nat I D) ∧ (@Ne Nat C D)) →
      wpAny (model prog w) A (isTrue ct (compEnvC scope cl C env) (eval ct (compEnvC scope cl C env))) (NoEnd h₀ L m { s with heap := h, toks := tk } I oI C oC D S J) E' { s with heap := h, toks := tk })
    (fin : ∀ news, J news → Fin [] news) : LCt.CompRestT prog w A h₀ L m env ct elt x scope cl s S P Fin n 0 [] news := by
  have key : ∀ (j i : Nat) (news : List (Addr × Obj)), i + j = n → J news → LCt.CompRestT prog w A h₀ L m env ct elt x scope cl s S P Fin j i [] news := by
    intro j
    induction j with
    | zero => intro i news _ hJ; exact LCt.CompRestT.zero (fin news hJ)
    | succ j ih =>
      intro i news hi hJ
      refine LCt.CompRestT.succ ?_
      intro v I oI C oC D m₂ h tk E' hv hC hx F N off ne
      obtain ⟨k, t, hk, hv'⟩ := hP i v (by omega) hv
      rw [hv'] at hx
      refine wpAny_mono (turn news hJ k t I oI C oC D m₂ h tk E' (List.mem_of_getElem? hk) hC hx F N off ne) (fun ok s₂ hq => ?_) fun _ _ e => e
      obtain ⟨rfl, h', tk', news', e, F', N', off', hS, hJ'⟩ := hq
      simp only [Bool.false_eq_true, if_false]
      exact ⟨h', tk', news', e, F', N', off', hS, ih (i + 1) news' (by omega) hJ'⟩
  exact key n 0 news (by omega) hJ
theorem cft_none_list {vs : List Value} {ns : List Int} (J : List (Addr × Obj) → Prop) (hi : IntsAre vs ns) (hJ : J news)
    (turn : ∀ news, J news → ∀ k t I oI C oC D m₂ h tk (E' : Value → Shared → Prop), k ∈ ns → LCg.NsObj oC m₂ → m₂ x = some (.int k t) → Fr h₀ L h m → News h₀ L h ((I, oI) :: (C, oC) :: (D, LCg.lst []) :: news) → LCg.Off3 I C D news → ((@Ne Nat I C) ∧ (@Ne Nat I D) ∧ (@Ne Nat C D)) →
      wpAny (model prog w) A (isTrue ct (compEnvC scope cl C env) (eval ct (compEnvC scope cl C env))) (NoEnd h₀ L m { s with heap := h, toks := tk } I oI C oC D S J) E' { s with heap := h, toks := tk })
    (fin : ∀ news, J news → Fin [] news) : LCt.CompRestT prog w A h₀ L m env ct elt x scope cl s S (fun i v => vs.toArray[i]? = some v) Fin vs.toArray.size 0 [] news :=
  cft_none (ks := ns) J (by rw [List.size_toArray]; exact hi.length.symm) (fun i v _ hv => by
    obtain ⟨k, t, e, hk⟩ := IntsAre.at hi i v (by simpa using hv)
    exact ⟨k, t, hk, e⟩) hJ turn fin
end
end Mine
namespace Mine
section
/-- what the turns of the law's comprehension keep in the ledger -/
def LedJ (D' : Addr) (oS : Obj) (news : List (Addr × Obj)) : Prop :=
  (D', oS) ∈ news ∧ D' ≠ 112 ∧ ((112, tabObj #[]) ∈ news ∨ ∃ c oc vs t', (112, tabObj (lamTab c)) ∈ news ∧ (c, oc) ∈ news ∧ D' ≠ c ∧ oc.data = .fields vs ∧ vs[1]? = some (.str lamQual t'))
theorem right_led {w : World} {mean : ExcName → Option Value} {mg mb : Str → Option Value} (mode : Int) (t : Tok) (hm0 : 0 ≤ mode) (hm1 : mode < 4294967296)
  (dp un : Nat) (gd : Option (List Code)) (cn : Str) (cs : Scope) (a : Addr) (ccd : Value) (cl : List (Str × Addr)) (outer : List Env) (A₀ : Around) (base h₀ : Heap) (L : Addr) (m : Str → Option Value) (s : Shared) (Q E : Value → Shared → Prop)
  (B : Below A₀ base outer h₀) (F : Fr h₀ L s.heap m) (X : (hd.heap_39 w.params).In h₀) (T : Top topProg (looseW hd.view_39 [Str.ofString "_initial_missing", Str.ofString "reduce", Str.ofString "_filemode_table"] ++ List.map (fun x => x.name) (recsOf hd.view_39) ++ List.map (fun x => x.fst) (litsOf hd.view_39) ++ List.map (fun x => x.name) (clssOf hd.view_39 (looseW hd.view_39 [Str.ofString "_initial_missing", Str.ofString "reduce", Str.ofString "_filemode_table"]))) mean mg mb h₀) (hC : CodeHd h₀ 114 112)
  {I : Addr} {oI : Obj} {C : Addr} {oC : Obj} {D : Addr} {oD : Obj} {news : List (Addr × Obj)} {D' : Addr} {oS : Obj} (N : News h₀ L s.heap ((I, oI) :: (C, oC) :: (D, oD) :: news)) (off : LCg.Off3 I C D news) (hJ : LedJ D' oS news) (hk : cs.kind = .function)
  (hdp : dp + 3 < recursionLimit) (hun : un + 200 < cLine)
  (hQ : ∀ h' tk' news', Fr h₀ L h' m → News h₀ L h' ((I, oI) :: (C, oC) :: (D, oD) :: news') → LCg.Off3 I C D news' → LedJ D' oS news' → Q (.bool true) { s with heap := h', toks := tk' }) :
  wpAny (model PySem.Challenge.rw_nq0053_01.prog w) (ktrTop dp un gd cn cs L a ccd cl outer) (call (.ref 115) [.int mode t]) Q E s := by
  obtain ⟨hS, hS1, hT⟩ := hJ
  have tail : ∀ p ∈ news, News h₀ L s.heap [p] := fun p hp q hq => by
    rw [List.mem_singleton.mp hq]; exact N p (List.mem_cons_of_mem _ (List.mem_cons_of_mem _ (List.mem_cons_of_mem _ hp)))
  have hSn := tail _ hS _ (List.mem_singleton.mpr rfl)
  have nI := N (I, oI) (List.Mem.head _)
  have nC := N (C, oC) (List.Mem.tail _ (List.Mem.head _))
  have nD := N (D, oD) (List.Mem.tail _ (List.Mem.tail _ (List.Mem.head _)))
  have oS' := LCg.Off3.mem off _ hS
  have main : ∀ (P : Addr → Prop), P I → P C → P D → P D' → P L → (∀ b o, h₀.get? b = some o → P b) → ∀ h' tk' c oc vs t',
      (∀ b o, P b → s.heap.get? b = some o → h'.get? b = some o ∧ b ≠ c) → (112 ≠ I ∧ 112 ≠ C ∧ 112 ≠ D) → News h₀ L h' [(112, tabObj (lamTab c)), (c, oc)] → oc.data = .fields vs → vs[1]? = some (.str lamQual t') → Q (.bool true) { s with heap := h', toks := tk' } := by
    intro P pI pC pD pS pL p₀ h' tk' c oc vs t' hout h112 N' hd hv
    obtain ⟨oL, eL, hoL⟩ := id F.ns
    have kI := hout _ _ pI nI.1
    have kC := hout _ _ pC nC.1
    have kD := hout _ _ pD nD.1
    have kS := hout _ _ pS hSn.1
    refine hQ h' tk' [(112, tabObj (lamTab c)), (c, oc), (D', oS)] ⟨F.ns.at' fun o e => (hout L o pL e).1, fun b o e => (hout b o (p₀ b o e) (F.keep b o e)).1, F.above⟩ (fun p hp => ?_) ?_ ⟨?_, hS1, .inr ⟨c, oc, vs, t', ?_, ?_, kS.2, hd, hv⟩⟩
    · simp only [List.mem_cons, List.not_mem_nil, or_false] at hp
      rcases hp with rfl | rfl | rfl | rfl | rfl | rfl
      · exact ⟨kI.1, nI.2⟩
      · exact ⟨kC.1, nC.2⟩
      · exact ⟨kD.1, nD.2⟩
      · exact N' _ (List.Mem.head _)
      · exact N' _ (List.Mem.tail _ (List.Mem.head _))
      · exact ⟨kS.1, hSn.2⟩
    · exact ⟨h112, ⟨Ne.symm kI.2, Ne.symm kC.2, Ne.symm kD.2⟩, oS', trivial⟩
    · simp
    · simp
    · simp
  rcases hT with h112 | ⟨c, oc, vs, t', h112, hc, hSc, hd, hv⟩
  · have o1 := LCg.Off3.mem off _ h112
    have n1 := tail _ h112
    have n2 := n1 _ (List.mem_singleton.mpr rfl)
    refine right0 mode t hm0 hm1 dp un gd cn cs a ccd cl outer A₀ base h₀ L m s Q E B F X T hC n1 hk hdp hun ?_
    intro h' tk' c oc vs t' hout N' hd hv
    exact main (fun b => b ≠ 112) (Ne.symm o1.1) (Ne.symm o1.2.1) (Ne.symm o1.2.2) hS1 (Ne.symm n2.2.1) (fun b o e q => by rw [q, n2.2.2] at e; cases e) h' tk' c oc vs t' hout o1 N' hd hv
  · have o1 := LCg.Off3.mem off _ h112
    have o2 := LCg.Off3.mem off _ hc
    have n1 := tail _ h112 _ (List.mem_singleton.mpr rfl)
    have n2 := tail _ hc _ (List.mem_singleton.mpr rfl)
    have n3 : News h₀ L s.heap [(112, tabObj (lamTab c)), (c, oc)] := fun p hp => by
      rcases List.mem_cons.mp hp with rfl | hp
      · exact n1
      · rw [List.mem_singleton.mp hp]; exact n2
    refine right1 mode t hm0 hm1 dp un gd cn cs a ccd cl outer A₀ base h₀ L m s Q E B F X T hC n3 hd hv hk hdp hun ?_
    intro h' tk' c' oc' vs' t'' hout N' hd' hv'
    exact main (fun b => b ≠ 112 ∧ b ≠ c) ⟨Ne.symm o1.1, Ne.symm o2.1⟩ ⟨Ne.symm o1.2.1, Ne.symm o2.2.1⟩ ⟨Ne.symm o1.2.2, Ne.symm o2.2.2⟩ ⟨hS1, hSc⟩ ⟨Ne.symm n1.2.1, Ne.symm n2.2.1⟩
      (fun b o e => ⟨fun q => (by rw [q, n1.2.2] at e; cases e), fun q => (by rw [q, n2.2.2] at e; cases e)⟩) h' tk' c' oc' vs' t'' (fun b o hb e => hout b o hb.1 hb.2 e) o1 N' hd' hv'
theorem mode_in (x : Int) : 0 ≤ x.fmod 16 * 4096 + (x.fdiv 16).fmod 4096 + (x.fdiv 65536).fmod 65536 * 65536 ∧ x.fmod 16 * 4096 + (x.fdiv 16).fmod 4096 + (x.fdiv 65536).fmod 65536 * 65536 < 4294967296 := by
  have h1 := Int.fmod_nonneg_of_pos x (b := 16) (by decide)
  have h2 := Int.fmod_lt_of_pos x (b := 16) (by decide)
  have h3 := Int.fmod_nonneg_of_pos (x.fdiv 16) (b := 4096) (by decide)
  have h4 := Int.fmod_lt_of_pos (x.fdiv 16) (b := 4096) (by decide)
  have h5 := Int.fmod_nonneg_of_pos (x.fdiv 65536) (b := 65536) (by decide)
  have h6 := Int.fmod_lt_of_pos (x.fdiv 65536) (b := 65536) (by decide)
  omega
theorem modes_in {ns : List Int} {k : Int} (h : k ∈ ns.map (fun k' => k'.fmod 16 * 4096 + (k'.fdiv 16).fmod 4096 + (k'.fdiv 65536).fmod 65536 * 65536) ++ [0, 35309, 17864, 17406, 44551, 811428, 9362, 52489]) : 0 ≤ k ∧ k < 4294967296 := by
  rcases List.mem_append.mp h with h | h
  · obtain ⟨x, _, rfl⟩ := List.mem_map.mp h
    exact mode_in x
  · simp only [List.mem_cons, List.not_mem_nil, or_false] at h
    omega
theorem off1_mem {D : Addr} : ∀ {l : List (Addr × Obj)}, LCg.Off1 D l → ∀ p ∈ l, p.1 ≠ D
  | [], _, _, h => nomatch h
  | _ :: _, x, p, h => by
    rcases List.mem_cons.mp h with rfl | h
    · exact x.1
    · exact off1_mem x.2 p h
theorem led_end {h₀ : Heap} {L : Addr} {h' : Heap} {D : Addr} {oD : Obj} {D' : Addr} {oS : Obj} {news : List (Addr × Obj)} (hJ : LedJ D' oS news) (N : News h₀ L h' ((D, oD) :: news)) (off : LCg.Off1 D news) : ∃ ps, (@Ne Nat 112 D) ∧ News h₀ L h' [(D, oD), (112, tabObj ps)] := by
  have key : ∃ ps, ((112 : Addr), tabObj ps) ∈ news := by
    rcases hJ.2.2 with h | ⟨c, _, _, _, h, _⟩
    · exact ⟨_, h⟩
    · exact ⟨_, h⟩
  obtain ⟨ps, hm⟩ := key
  refine ⟨ps, off1_mem off _ hm, fun p hp => ?_⟩
  rcases List.mem_cons.mp hp with rfl | hp
  · exact N _ (List.Mem.head _)
  · rw [List.mem_singleton.mp hp]; exact N _ (List.mem_cons_of_mem _ hm)
section
variable {prog : Program} {w : World} {A : Around} {h₀ : Heap} {L : Addr} {m : Str → Option Value} {env : Env} {ct elt : Expr} {x : Str} {scope : Scope} {cl : List (Str × Addr)} {s : Shared} {S : List (Addr × Obj) → Prop} {Fin : List Value → List (Addr × Obj) → Prop} {rest : List (Addr × Obj)}
theorem cft_law {vs : List Value} {ns : List Int} {D' : Addr} {oS : Obj} (hi : IntsAre vs ns) (hD : @Ne Nat D' 112) (hm : (112, tabObj #[]) ∈ rest)
    (turn : ∀ news, LedJ D' oS news → ∀ k t I oI C oC D m₂ h tk (E' : Value → Shared → Prop), k ∈ ns → LCg.NsObj oC m₂ → m₂ x = some (.int k t) → Fr h₀ L h m → News h₀ L h ((I, oI) :: (C, oC) :: (D, LCg.lst []) :: news) → LCg.Off3 I C D news → ((@Ne Nat I C) ∧ (@Ne Nat I D) ∧ (@Ne Nat C D)) →
      wpAny (model prog w) A (isTrue ct (compEnvC scope cl C env) (eval ct (compEnvC scope cl C env))) (NoEnd h₀ L m { s with heap := h, toks := tk } I oI C oC D S (LedJ D' oS)) E' { s with heap := h, toks := tk })
    (fin : ∀ news, LedJ D' oS news → Fin [] news) : LCt.CompRestT prog w A h₀ L m env ct elt x scope cl s S (fun i v => vs.toArray[i]? = some v) Fin vs.toArray.size 0 [] ((D', oS) :: rest) :=
  cft_none_list (LedJ D' oS) hi ⟨List.Mem.head _, hD, .inl (List.Mem.tail _ hm)⟩ turn fin
end
end
end Mine
-- part End53
set_option maxHeartbeats 4000000
namespace Mine
section
local macro_rules | `(tactic| walk_at "eval ListComp") => `(tactic| (k_here; (with_reducible show wpAny _ _ (eval (Expr.ListComp _ [⟨_, _, [_], _⟩] _ _) _) _ _ _); k_dflt (refine LCt.ListComp_T (F₀ := by k_asm) (by with_unfolding_all rfl) (by decide) (by rfl) (by decide) (by rfl) ?_)))
set_option hygiene false in
local macro_rules | `(tactic| walk_at "CompSrcT") => `(tactic| (k_here; k_dflt (refine LCt.CompSrcT.ledger (by rfl) (by k_asm) (by k_asm) (List.Mem.head _) (kmk_sz (by assumption) (by rw [PySem.sizeLine_eq]; simp only [List.length_append, List.length_map, List.length_take, List.length_cons, List.length_nil]; omega)) ?_; intro g'; (refine cft_law (by assumption) (by omega) (by k_mem) (fun news6 hJ6 k' t' I' oI' C' oC' D' m' h' tk' E' hk' hC' hx' F' N' off' ne' => ?_) ?_); (case' refine_2 => (intro news7 hJ7 D7 h7 tk7 F7 N7 off7; obtain ⟨ps7, ne7, N8⟩ := led_end hJ7 N7 off7; clear N7 off7 hJ7)))))
set_option hygiene false in
local macro_rules | `(tactic| walk_at "call ref") => `(tactic| (k_here; (with_reducible show wpAny _ _ (call (Value.ref 115) [Value.int _ _]) _ _ _); k_dflt (refine right_led _ _ (modes_in hk').1 (modes_in hk').2 _ _ _ _ _ _ _ _ _ _ _ _ _ _ _ _ _ (by k_asm) (by k_asm) (by k_asm) (by k_asm) (by k_asm) N' off' hJ6 (by rfl) (by ktr_room) (by ktr_units) ?_); intro h9 tk9 news9 F9 N9 off9 hJ9; (try dsimp only)))
set_option hygiene false in
local macro_rules | `(tactic| walk_at "NoEnd") => `(tactic| exact ⟨rfl, h9, tk9, news9, rfl, F9, N9, off9, .inr ⟨_, hJ9.1, rfl, _, rfl⟩, hJ9⟩)
theorem law_holds : PySem.Challenge.rw_nq0053_01.Holds := hd (by
  k_go0
  (all_goals try k_fold)
  k_steps)
end
end Mine
theorem PySem.Challenge.cw_nq0053_01_holds : PySem.Challenge.rw_nq0053_01.Holds := by
  exact Mine.law_holds
