import PyProof.Rows.All
import Wide.All
import OpenK.AllK
import Wide.FinOn
import Lean
import PySem.Challenge.RW_rw0061_01
set_option Elab.async false
set_option maxRecDepth 100000
set_option maxHeartbeats 8000000
section
open PySem PySem.W PyProof.Rows
open_top Mine.hd for PySem.Challenge.rw_rw0061_01
end

section
open PySem PySem.W PySem.Calls PySem.Spec PyProof.Rows
namespace Mine

def AllNe : List (Addr × Obj) → Nat → Prop
  | [], _ => True
  | p :: r, d => @Ne Nat p.1 d ∧ AllNe r d
theorem allNe_of {d : Nat} : ∀ {l : List (Addr × Obj)}, (∀ p ∈ l, @Ne Nat p.1 d) → AllNe l d
  | [], _ => trivial
  | _ :: _, h => ⟨h _ List.mem_cons_self, allNe_of fun p hp => h p (List.mem_cons_of_mem _ hp)⟩
theorem news_sub {h₀ h : Heap} {L : Addr} {all nw : List (Addr × Obj)} (N : News h₀ L h all) (hs : ∀ p ∈ nw, p ∈ all) : News h₀ L h nw := fun p hp => N p (hs p hp)

/-- a call's contract: whole heap kept, new objects told, an answer told -/
def Tells1 (prog : Program) (w : World) (K : Frag) (p : Program) (loose : List Str) (mean : ExcName → Option Value) (mg mb : Str → Option Value) (f : Addr) (args : List Value) (pre : Heap → Prop) (D U : Nat) (post : Value → List (Addr × Obj) → Prop) : Prop :=
  ∀ (dp un : Nat) (gd : Option (List Code)) (cn : Str) (cs : Scope) (a : Addr) (ccd : Value) (cl : List (Str × Addr)) (outer : List Env) (A₀ : Around) (base h₀ : Heap) (L : Addr) (m : Str → Option Value) (news : List (Addr × Obj)) (s : Shared) (Q E : Value → Shared → Prop),
    Below A₀ base outer h₀ → Fr h₀ L s.heap m → K.In h₀ → News h₀ L s.heap news → Top p loose mean mg mb h₀ → cs.kind = .function → pre s.heap → dp + D < recursionLimit → un + U < cLine →
    (∀ v nw h' tk', Fr h₀ L h' m → News h₀ L h' (nw ++ news) → (∀ b o, s.heap.get? b = some o → h'.get? b = some o) → (∀ q ∈ nw, AllNe news q.1) → post v nw → Q v { s with heap := h', toks := tk' }) →
    wpAny (model prog w) (ktrTop dp un gd cn cs L a ccd cl outer) (call (.ref f) args) Q E s

theorem code_pure {prog : Program} {w : World} {A A₀ : Around} {s : Shared} {base h₀ : Heap} {outer : List Env} {env : Env} {L : Addr} {m mg mb : Str → Option Value} {news : List (Addr × Obj)} {K : Frag} {p : Program} {loose : List Str} {mean : ExcName → Option Value}
    {R : Result → Shared → Prop} {name qual : Str} {params : Arguments} {body : List Stmt} {scope : Scope} {dV kV doc pm cdv ct oc : Value} {an od : Option Addr} {osl : Array (Option Value)} {f : Addr} {args : Args} {binds : List (Str × Value)}
    (B : Below A₀ base outer h₀) (F : Fr h₀ L s.heap m) (X₀ : K.In h₀) (N : News h₀ L s.heap news) (T : Top p loose mean mg mb h₀) (hA : A.frames = some (env :: outer)) (hf : env.frame = some L) (hke : env.scope.kind = .function)
    (ho : K.lookup f = some ⟨oc, od, .func (fnOf name qual params body scope dV kV doc pm an cdv ct), osl⟩) (hcd : codeIn K cdv qual = true) (hroom : A.depth < recursionLimit)
    (hbind : BindsTo s (fnOf name qual params body scope dV kV doc pm an cdv ct) args binds) (hloc : ∀ y ∈ binds, scope.names.lookup y.1 = some .local)
    (h : ∀ g L' h₁, (∀ b o, s.heap.get? b = some o → g.get? b = some o) → Fr g L' h₁ (fun y => binds.reverse.lookup y) → News g L' h₁ [] → Below A base (env :: outer) g → K.In g → Top p loose mean mg mb g →
      wpAny (model prog w) (A.deeper (envOf qual scope L' f cdv)) (execs body (envOf qual scope L' f cdv))
        (fun fl s' => LeaveK h₀ L m g (fun r s'' => (∀ b o, g.get? b = some o → s''.heap.get? b = some o) → R r s'') (match fl with | .ret v => v | _ => .none) s')
        (fun e s' => wpAny (model prog w) (A.deeper (envOf qual scope L' f cdv)) (leaving (envOf qual scope L' f cdv) e) (fun _ s'' => R (.error e) s'') (fun e' s'' => R (.error e') s'') s')
        { s with heap := h₁, toks := s.toks + binds.length })
    (hco : scope.isCoroutine = false) (hgen : scope.isGenerator = false) (hk : scope.kind = .function)
    (hcell : ∀ x ∈ scope.names, x.2 ≠ .cell) : codeAny (model prog w) A (.call (.ref f) args) R s := by
  have B₁ := pushX B F hf hke
  refine codeAny_call_def (fd := fnX name qual params body scope [] dV kV doc pm an cdv ct) (body := body) (binds := binds) hroom ((X₀.keeps F.keep) _ _ ho) rfl (T.nolimit.keeps F.keep) (codeRec_of (X₀.keeps F.keep) hcd) rfl hbind hcell hloc (fun h₁ hns hk₁ => ?_) hco hgen hk
  refine wpAny_mono (h s.heap _ h₁ (fun _ _ e => e) ⟨hns, hk₁, Nat.le_refl _⟩ News.nil ⟨hA, B₁.stays, B₁.frames⟩ (X₀.keeps F.keep) (T.keeps F.keep)) (fun fl s' hl => ?_) fun _ _ y => y
  obtain ⟨L', m', news', F', N', k⟩ := hl
  obtain ⟨oL, es, ep, hL, hLd, hLk, hLf⟩ := F.ns
  refine k ⟨⟨oL, es, ep, F'.keep L oL hL, hLd, hLk, hLf⟩, fun b o e => F'.keep b o (F.keep b o e), F.above⟩ (fun q hq => ⟨(N' q hq).1, fun e => ?_, ?_⟩) F'.keep
  · have := (N' q hq).2.2; rw [e, hL] at this; cases this
  · cases e : h₀.get? q.1 with
    | none => rfl
    | some o => have := (N' q hq).2.2; rw [F.keep _ _ e] at this; cases this

theorem code_pureC {prog : Program} {w : World} {A A₀ : Around} {s : Shared} {base h₀ : Heap} {outer : List Env} {env : Env} {L : Addr} {m mg mb : Str → Option Value} {K : Frag} {p : Program} {loose : List Str} {mean : ExcName → Option Value}
    {R : Result → Shared → Prop} {name qual : Str} {params : Arguments} {body : List Stmt} {scope : Scope} {dV kV doc pm cdv ct oc : Value} {an od : Option Addr} {osl : Array (Option Value)} {f : Addr} {args : Args} {binds : List (Str × Value)}
    (B : Below A₀ base outer h₀) (F : Fr h₀ L s.heap m) (X₀ : K.In h₀) (T : Top p loose mean mg mb h₀) (hA : A.frames = some (env :: outer)) (hf : env.frame = some L) (hke : env.scope.kind = .function)
    (ho : K.lookup f = some ⟨oc, od, .func (fnOf name qual params body scope dV kV doc pm an cdv ct), osl⟩) (hcd : codeIn K cdv qual = true) (hroom : A.depth < recursionLimit)
    (hbind : BindsTo s (fnOf name qual params body scope dV kV doc pm an cdv ct) args binds) (hkind : (binds.all fun y => scope.names.lookup y.1 == some .local || scope.names.lookup y.1 == some .cell) = true)
    (hnd : ((cellsFrom 0 scope.names []).map (·.1)).Nodup)
    (h : ∀ g L' h₁ tk cells, (∀ b o, s.heap.get? b = some o → g.get? b = some o) → Fr g L' h₁ (bindL (envOfC qual scope L' f cdv).kindOf binds fun _ => none) → News g L' h₁ cells →
      CellsAre (bindC (envOfC qual scope L' f cdv).kindOf binds fun _ => none) (cellsFrom (L' + 1) scope.names []) cells → Below A base (env :: outer) g → K.In g → Top p loose mean mg mb g →
      wpAny (model prog w) (A.deeper (envOfC qual scope L' f cdv)) (execs body (envOfC qual scope L' f cdv))
        (fun fl s' => LeaveK h₀ L m g (fun r s'' => (∀ b o, g.get? b = some o → s''.heap.get? b = some o) → R r s'') (match fl with | .ret v => v | _ => .none) s')
        (fun e s' => wpAny (model prog w) (A.deeper (envOfC qual scope L' f cdv)) (leaving (envOfC qual scope L' f cdv) e) (fun _ s'' => R (.error e) s'') (fun e' s'' => R (.error e') s'') s')
        { s with heap := h₁, toks := tk })
    (hco : scope.isCoroutine = false) (hgen : scope.isGenerator = false) (hk : scope.kind = .function) : codeAny (model prog w) A (.call (.ref f) args) R s := by
  have B₁ := pushX B F hf hke
  refine codeAny_call_function hroom ((X₀.keeps F.keep) _ _ ho) rfl hco hgen rfl (codeRec_of (X₀.keeps F.keep) hcd) (hbind _ _ _ _ ?_)
  refine wpAny_newFunctionEnv_cells hk (kindsX hkind _) fun env' he s' x => ?_
  subst he
  refine ⟨(T.nolimit.keeps F.keep).keeps x.toInCall.keep, codeAny_func ?_⟩
  obtain ⟨h₁, tk, rfl, _⟩ := x.done
  have hk₁ := x.toInCall.keep
  obtain ⟨cells, NC, Y⟩ := Cl.news (h₀ := s.heap) (Nat.le_refl _) fun n c hm => ⟨x.cell n c (lookup_of_mem_nodup (cellsFrom_names scope.names 0 (s.heap.objs.size + 1) [] [] rfl ▸ hnd) hm), x.above n c hm⟩
  refine wpAny_mono (h s.heap s.heap.objs.size h₁ tk cells (fun _ _ e => e) ⟨x.toInCall.ns, hk₁, Nat.le_refl _⟩ NC Y ⟨hA, B₁.stays, B₁.frames⟩ (X₀.keeps F.keep) (T.keeps F.keep)) (fun fl s' hl => ?_) fun _ _ y => y
  obtain ⟨L', m', news', F', N', k⟩ := hl
  obtain ⟨oL, es, ep, hL, hLd, hLk, hLf⟩ := F.ns
  refine k ⟨⟨oL, es, ep, F'.keep L oL hL, hLd, hLk, hLf⟩, fun b o e => F'.keep b o (F.keep b o e), F.above⟩ (fun q hq => ⟨(N' q hq).1, fun e => ?_, ?_⟩) F'.keep
  · have := (N' q hq).2.2; rw [e, hL] at this; cases this
  · cases e : h₀.get? q.1 with
    | none => rfl
    | some o => have := (N' q hq).2.2; rw [F.keep _ _ e] at this; cases this

theorem keepList {h g : Heap} {l : Addr} {its : Array Value} (x : h.IsList l its) (k : ∀ b o, h.get? b = some o → g.get? b = some o) : g.IsList l its := x.at fun o e => k l o e
theorem use1 {prog : Program} {w : World} {K : Frag} {p : Program} {loose : List Str} {mean : ExcName → Option Value} {mg mb : Str → Option Value} {f : Addr} {args : List Value} {pre : Heap → Prop} {D U : Nat} {post : Value → List (Addr × Obj) → Prop}
    {dp un : Nat} {gd : Option (List Code)} {cn : Str} {cs : Scope} {a : Addr} {ccd : Value} {cl : List (Str × Addr)} {outer : List Env} {A₀ : Around} {base h₀ : Heap} {L : Addr} {m : Str → Option Value} {news : List (Addr × Obj)} {s : Shared} {Q E : Value → Shared → Prop}
    (C : Tells1 prog w K p loose mean mg mb f args pre D U post)
    (B : Below A₀ base outer h₀) (F : Fr h₀ L s.heap m) (X : K.In h₀) (N : News h₀ L s.heap news) (T : Top p loose mean mg mb h₀) (hk : cs.kind = .function) (hp : pre s.heap) (hd : dp + D < recursionLimit) (hu : un + U < cLine)
    (ret : ∀ v nw h' tk', Fr h₀ L h' m → News h₀ L h' (nw ++ news) → (∀ b o, s.heap.get? b = some o → h'.get? b = some o) → (∀ q ∈ nw, AllNe news q.1) → post v nw → Q v { s with heap := h', toks := tk' }) :
    wpAny (model prog w) (ktrTop dp un gd cn cs L a ccd cl outer) (call (.ref f) args) Q E s := C _ _ _ _ _ _ _ _ _ _ _ _ _ _ _ _ _ _ B F X N T hk hp hd hu ret

theorem ret_pure {h₀ : Heap} {L L' : Addr} {m : Str → Option Value} {news nw : List (Addr × Obj)} {s : Shared} {Q : Value → Shared → Prop} {post : Value → List (Addr × Obj) → Prop} {h' : Heap} {tk' : Nat} {v : Value} {g : Heap}
    (hret : ∀ v nw h' tk', Fr h₀ L h' m → News h₀ L h' (nw ++ news) → (∀ b o, s.heap.get? b = some o → h'.get? b = some o) → (∀ q ∈ nw, AllNe news q.1) → post v nw → Q v { s with heap := h', toks := tk' })
    (F : Fr h₀ L h' m) (F₀ : Fr h₀ L s.heap m) (N₀ : News h₀ L s.heap news) (hg : ∀ b o, s.heap.get? b = some o → g.get? b = some o) (hk : ∀ b o, g.get? b = some o → h'.get? b = some o) (N : News g L' h' nw) (hp : post v nw) : Q v { s with heap := h', toks := tk' } :=
  hret v nw h' tk' F (fun q hq => by
    rcases List.mem_append.mp hq with h | h
    · refine ⟨(N q h).1, fun e => ?_, ?_⟩
      · obtain ⟨oL, _, _, hL, _⟩ := F₀.ns
        have := hg _ _ hL
        rw [← e, (N q h).2.2] at this; cases this
      · cases e : h₀.get? q.1 with
        | none => rfl
        | some o => have := hg _ _ (F₀.keep _ _ e); rw [(N q h).2.2] at this; cases this
    · exact ⟨hk _ _ (hg _ _ (N₀ q h).1), (N₀ q h).2⟩) (fun b o e => hk b o (hg b o e)) (fun q hq => allNe_of fun p hp e => by
      have := hg _ _ (N₀ p hp).1
      have e' : p.1 = q.1 := e
      rw [e', (N q hq).2.2] at this; cases this) hp
end Mine
end

section
open PySem PySem.W PySem.Calls PySem.Spec PyProof.Rows
namespace Mine

def halv (n : Int) : Int := if n % 2 ≠ 0 then 0 else if n % 4 ≠ 0 then 1 else if n % 8 ≠ 0 then 2 else if n % 16 ≠ 0 then 3 else 4
theorem halv_rng (n : Int) : 0 ≤ halv n ∧ halv n ≤ 4 := by
  unfold halv
  split
  · decide
  · split
    · decide
    · split
      · decide
      · split <;> decide
theorem halv_odd' {n : Int} (h : n % 2 ≠ 0) : halv n = 0 := if_pos h
theorem dbl_mod (p m : Int) (h : 0 < m) : (2 * p) % (2 * m) ≠ 0 ↔ p % m ≠ 0 := by
  rw [Int.mul_emod_mul_of_pos p m (by decide : (0 : Int) < 2)]
  generalize p % m = r
  omega
/-- twice a number can be halved once more -/
theorem halv_two (p : Int) : halv (2 * p) = min 4 (halv p + 1) := by
  have e1 : ¬ (2 * p) % 2 ≠ 0 := by omega
  have e2 : (2 * p) % 4 ≠ 0 ↔ p % 2 ≠ 0 := dbl_mod p 2 (by decide)
  have e4 : (2 * p) % 8 ≠ 0 ↔ p % 4 ≠ 0 := dbl_mod p 4 (by decide)
  have e8 : (2 * p) % 16 ≠ 0 ↔ p % 8 ≠ 0 := dbl_mod p 8 (by decide)
  unfold halv
  rw [if_neg e1]
  by_cases h2 : p % 2 ≠ 0
  · rw [if_pos (e2.mpr h2), if_pos h2]; decide
  · rw [if_neg (fun q => h2 (e2.mp q)), if_neg h2]
    by_cases h4 : p % 4 ≠ 0
    · rw [if_pos (e4.mpr h4), if_pos h4]; decide
    · rw [if_neg (fun q => h4 (e4.mp q)), if_neg h4]
      by_cases h8 : p % 8 ≠ 0
      · rw [if_pos (e8.mpr h8), if_pos h8]; decide
      · rw [if_neg (fun q => h8 (e8.mp q)), if_neg h8]
        split <;> decide
def HW (n c t : Int) : Prop := 0 ≤ t ∧ t ≤ 4 ∧ halv n = min 4 (t + halv c)
theorem fm2 (a : Int) : a.fmod 2 = a % 2 := Int.fmod_eq_emod_of_nonneg _ (by decide)
theorem fd2 (a : Int) : a.fdiv 2 = a / 2 := Int.fdiv_eq_ediv_of_nonneg _ (by decide)
theorem HW_start (n : Int) : HW n n 0 := ⟨by decide, by decide, by have := halv_rng n; generalize halv n = h at *; omega⟩
theorem HW_step {n c t : Int} (h : HW n c t) (h1 : t < 4) (h2 : c.fmod 2 = 0) : HW n (c.fdiv 2) (t + 1) := by
  rw [fm2] at h2
  rw [fd2]
  obtain ⟨a, b, e⟩ := h
  have hc : c = 2 * (c / 2) := by omega
  rw [hc, halv_two] at e
  have := halv_rng (c / 2)
  unfold HW
  generalize halv (c / 2) = p at *
  generalize halv n = q at *
  clear hc h2
  omega
theorem HW_less {n c t : Int} (h : HW n c t) (h1 : t < 4) : (4 - (t + 1)).toNat < (4 - t).toNat := by clear h; omega
theorem HW_end1 {n c t : Int} (h : HW n c t) (h1 : ¬ t < 4) : t = halv n := by
  obtain ⟨a, b, e⟩ := h
  have := halv_rng c
  rw [e]
  generalize halv c = p at *
  clear e
  omega
theorem HW_end2 {n c t : Int} (h : HW n c t) (h1 : t < 4) (h2 : c.fmod 2 ≠ 0) : t = halv n := by
  rw [fm2] at h2
  obtain ⟨a, b, e⟩ := h
  rw [e, halv_odd' h2]
  clear e h2
  omega
theorem halv_spec {w : World} {mean : ExcName → Option Value} {mg mb : Str → Option Value} {n : Int} {t : Tok} :
    Tells1 PySem.Challenge.rw_rw0061_01.row.prog w (Mine.hd.heap_39 w.params) topProg (looseW Mine.hd.view_39 [Str.ofString "fmean", Str.ofString "quantiles"] ++ (recsOf Mine.hd.view_39).map (·.name) ++ (litsOf Mine.hd.view_39).map (·.1) ++ (clssOf Mine.hd.view_39 (looseW Mine.hd.view_39 [Str.ofString "fmean", Str.ofString "quantiles"])).map (·.name)) mean mg mb 138 [.int n t] (fun _ => True) 1 8 (fun v nw => nw = [] ∧ ∃ t', v = .int (halv n) t') := by
  k_with_none
  w_top off
  k_fill
  unfold Tells1
  intro dp un gd cn cs a ccd cl outer A₀ base h₀ L m news s Q E B F X N T hk hpre hd hu hret
  refine wpAny_call ?_
  k_dflt ((refine' code_pure ?k1 ?k2 ?k3 ?k4 ?k5 ?kA ?kF ?kK ?k6 ?k7 ?k8 ?k9 ?kB ?_ ?c2 ?c3 ?c4 ?c5; (case kA => exact rfl); (case kF => exact rfl); (case kK => assumption); (case k1 => k_asm); (case k2 => k_asm); (case k3 => k_asm); (case k4 => k_asm); (case k5 => k_asm); (case k6 => k_is); (case k7 => k_is); (case k8 => ktr_room); (case k9 => exact BindsTo.of_eq rfl); (case c5 => decide); (case kB => exact locs rfl); (case c2 => exact rfl); (case c3 => exact rfl); (case c4 => exact rfl); k_whole; intro g' L' h' hg' F' N' B' X' T'; (try dsimp only); (try k_lift B'); (try k_fold)))
  k_with "exec While BoolOp cons nil" => k_while_given ["count!"] (fun n₀ (script : List Int) c t => HW n₀ c t) (fun n₀ (script : List Int) c t => (4 - t).toNat) "count" "times"
  k_with "state" => first | exact HW_start _ | exact HW_step (by assumption) (by assumption) (by assumption)
  k_with "measure" => exact HW_less (by assumption) (by assumption)
  k_steps
  all_goals exact ret_pure hret (by k_asm) F N (by assumption) (by assumption) (by k_asm) ⟨rfl, _, congrArg (fun x => Value.int x _) (by first | exact HW_end1 (by assumption) (by assumption) | exact HW_end2 (by assumption) (by assumption) (by assumption))⟩
end Mine
end

section
open PySem PySem.W PySem.Calls PySem.Spec PyProof.Rows
namespace Mine

theorem piece_len1 (n : Int) : (Txt.mul (Str.ofString "\"") (n.fmod 9)).length ≤ 8 := by
  have h : n.fmod 9 ≤ (8 : Nat) := by rw [Int.fmod_eq_emod_of_nonneg _ (by decide)]; omega
  have := PyProof.Rows.len_mul_leN (x := Str.ofString "\"") (L := 1) (N := 8) (by decide) h
  omega
theorem piece_len2 (n : Int) : (Txt.slice (Str.ofString "abc") none (some ((n.fdiv 9).fmod 4))).length ≤ 3 := Nat.le_trans (Txt.slice_le _ _ _) (by decide)
theorem piece_size (n : Int) : (Txt.mul (Str.ofString "\"") (n.fmod 9)).length + (Txt.slice (Str.ofString "abc") none (some ((n.fdiv 9).fmod 4))).length ≤ sizeLine :=
  Nat.le_trans (Nat.add_le_add (piece_len1 n) (piece_len2 n)) (by decide)
def pieceF (n : Int) : Str := (Txt.mul (Str.ofString "\"") (n.fmod 9)) ++ (Txt.slice (Str.ofString "abc") none (some ((n.fdiv 9).fmod 4)))
theorem piece_app (n : Int) : ((Txt.mul (Str.ofString "\"") (n.fmod 9)) ++ (Txt.slice (Str.ofString "abc") none (some ((n.fdiv 9).fmod 4)))).length ≤ 11 := by
  rw [Str.length_append]
  have := piece_len1 n; have := piece_len2 n; omega
theorem piece_spec {w : World} {mean : ExcName → Option Value} {mg mb : Str → Option Value} {n : Int} {t : Tok} :
    Tells1 PySem.Challenge.rw_rw0061_01.row.prog w (Mine.hd.heap_39 w.params) topProg (looseW Mine.hd.view_39 [Str.ofString "fmean", Str.ofString "quantiles"] ++ (recsOf Mine.hd.view_39).map (·.name) ++ (litsOf Mine.hd.view_39).map (·.1) ++ (clssOf Mine.hd.view_39 (looseW Mine.hd.view_39 [Str.ofString "fmean", Str.ofString "quantiles"])).map (·.name)) mean mg mb 131 [.int n t] (fun _ => True) 1 8 (fun v nw => nw = [] ∧ ∃ t', v = .str (pieceF n) t') := by
  k_with_none
  w_top off
  k_fill
  unfold Tells1
  intro dp un gd cn cs a ccd cl outer A₀ base h₀ L m news s Q E B F X N T hk hpre hd hu hret
  refine wpAny_call ?_
  k_dflt ((refine' code_pure ?k1 ?k2 ?k3 ?k4 ?k5 ?kA ?kF ?kK ?k6 ?k7 ?k8 ?k9 ?kB ?_ ?c2 ?c3 ?c4 ?c5; (case kA => exact rfl); (case kF => exact rfl); (case kK => assumption); (case k1 => k_asm); (case k2 => k_asm); (case k3 => k_asm); (case k4 => k_asm); (case k5 => k_asm); (case k6 => k_is); (case k7 => k_is); (case k8 => ktr_room); (case k9 => exact BindsTo.of_eq rfl); (case c5 => decide); (case kB => exact locs rfl); (case c2 => exact rfl); (case c3 => exact rfl); (case c4 => exact rfl); k_whole; intro g' L' h' hg' F' N' B' X' T'; (try dsimp only); (try k_lift B'); (try k_fold)))
  k_steps
  refine PyProof.Rows.add_str (fun t' tk => ?_) (piece_size n)
  k_steps
  exact ret_pure hret (by k_asm) F N (by assumption) (by assumption) (by k_asm) ⟨rfl, _, rfl⟩
end Mine
end

section
open PySem PySem.W PySem.Calls PySem.Spec PyProof.Rows
namespace Mine
local macro_rules | `(tactic| walk_at "call ref") => `(tactic| (k_here; (with_reducible show wpAny _ _ (call (Value.ref 138) [Value.int _ _]) _ _ _); k_dflt (refine' use1 halv_spec ?k1 ?k2 ?k3 ?k4 ?k5 ?kK ?kp ?kd ?ku ?_; (case k1 => k_asm); (case k2 => k_asm); (case k3 => k_asm); (case k4 => k_asm); (case k5 => k_asm); (case kK => first | exact rfl | assumption); (case kp => exact trivial); (case kd => ktr_room); (case ku => ktr_units)); intro v9 nw9 h9 tk9 F9 N9 kp9 hne9 ho9; (obtain ⟨e9, t9, e8⟩ := ho9; subst e9; subst e8); (try simp only [List.nil_append] at N9); (try dsimp only); (try k_fold)))

/-- the state behind a prefix: reach and the open stretch's quotes -/
def lst : List Int → Int → Int → Int × Int
  | [], r, q => (r, q)
  | c :: cs, r, q => if c = 34 then lst cs r (q + 1) else lst cs (if q > 0 then min r (halv q) else r) 0
def lv : List Int → Int → Int → List Int
  | [], _, _ => []
  | c :: cs, r, q => if c = 34 then min r (halv (q + 1)) :: lv cs r (q + 1) else (if q > 0 then min r (halv q) else r) :: lv cs (if q > 0 then min r (halv q) else r) 0
def LW (pre : List Int) (r q : Int) (ls : List Int) : Prop := lst pre 4 0 = (r, q) ∧ ls = lv pre 4 0 ∧ 0 ≤ r ∧ r ≤ 4 ∧ 0 ≤ q ∧ q ≤ pre.length ∧ ls.length = pre.length

theorem lst_snoc (c : Int) : ∀ (l : List Int) (r q : Int), lst (l ++ [c]) r q = lst [c] (lst l r q).1 (lst l r q).2
  | [], r, q => rfl
  | d :: l, r, q => by
    simp only [List.cons_append, lst]
    split <;> exact lst_snoc c l _ _
theorem lv_snoc (c : Int) : ∀ (l : List Int) (r q : Int), lv (l ++ [c]) r q = lv l r q ++ lv [c] (lst l r q).1 (lst l r q).2
  | [], r, q => rfl
  | d :: l, r, q => by
    simp only [List.cons_append, lv, lst]
    split <;> exact congrArg (_ :: ·) (lv_snoc c l _ _)
theorem halv_le (n : Int) : 0 ≤ halv n ∧ halv n ≤ 4 := halv_rng n
theorem LW_start : LW [] 4 0 [] := ⟨rfl, rfl, by omega, by omega, by omega, by simp, rfl⟩
theorem sign_eq {c : Nat} (h : (({ cps := #[c] } : Str) == Str.ofString "\"") = true) : c = 34 := by
  have e : ({ cps := #[c] } : Str) = { cps := #[34] } := (beq_iff_eq.mp h).trans (by decide)
  have := congrArg (fun s : Str => s.cps.toList) e
  simpa using this
theorem sign_ne {c : Nat} (h : (({ cps := #[c] } : Str) == Str.ofString "\"") = false) : c ≠ 34 := by
  rintro rfl
  have : (({ cps := #[34] } : Str) == Str.ofString "\"") = true := by decide
  rw [this] at h; cases h
theorem min_if (a r : Int) : (if a < r then a else r) = min r a := by omega
theorem LW_end {pre : List Int} {r q : Int} {ls : List Int} {vs : List Value} (h : LW pre r q ls) (hi : IntsAre vs ls) : IntsAre vs (lv pre 4 0) := by rw [← h.2.1]; exact hi
theorem LW_size {x : Str} {vs : List Value} {pre post : List Int} {c : Int} {r q : Int} {ls : List Int} (hx : x.length ≤ 100) (h : LW pre r q ls) (e : KStt.codes x = pre ++ c :: post) (hv : vs.length = ls.length := by assumption) : vs.toArray.size ≤ sizeLine := by
  have := KStt.codes_length x
  rw [e, List.length_append] at this
  have := h.2.2.2.2.2.2
  rw [List.size_toArray, hv, this]
  exact Nat.le_trans (by omega : pre.length ≤ 100) (by decide)
theorem LW_q {pre : List Int} {r q : Int} {ls : List Int} {c : Nat} (h : LW pre r q ls) (hc : (({ cps := #[c] } : Str) == Str.ofString "\"") = true) : LW (pre ++ [(c : Int)]) r (q + 1) (ls ++ [if halv (q + 1) < r then halv (q + 1) else r]) := by
  have hc := sign_eq hc
  rw [min_if]
  obtain ⟨h1, h2, h3, h4, h5, h6, h7⟩ := h
  have hc' : (c : Int) = 34 := by omega
  refine ⟨?_, ?_, h3, h4, by omega, by simp; omega, by simp [h7]⟩
  · rw [lst_snoc, h1]; simp only [lst, hc', if_true]
  · rw [lv_snoc, h1, ← h2]; simp only [lv, hc', if_true]
theorem LW_n1 {pre : List Int} {r q : Int} {ls : List Int} {c : Nat} (h : LW pre r q ls) (hc : (({ cps := #[c] } : Str) == Str.ofString "\"") = false) (hq : q > 0) : LW (pre ++ [(c : Int)]) (if halv q < r then halv q else r) 0 (ls ++ [if halv q < r then halv q else r]) := by
  have hc := sign_ne hc
  rw [min_if]
  obtain ⟨h1, h2, h3, h4, h5, h6, h7⟩ := h
  have hc' : (c : Int) ≠ 34 := by omega
  have := halv_le q
  refine ⟨?_, ?_, by omega, by omega, by omega, by simp; omega, by simp [h7]⟩
  · rw [lst_snoc, h1]; simp only [lst, if_neg hc', if_pos hq]
  · rw [lv_snoc, h1, ← h2]; simp only [lv, if_neg hc', if_pos hq]
theorem LW_n0 {pre : List Int} {r q : Int} {ls : List Int} {c : Nat} (h : LW pre r q ls) (hc : (({ cps := #[c] } : Str) == Str.ofString "\"") = false) (hq : ¬ q > 0) : LW (pre ++ [(c : Int)]) r 0 (ls ++ [r]) := by
  have hc := sign_ne hc
  obtain ⟨h1, h2, h3, h4, h5, h6, h7⟩ := h
  have hc' : (c : Int) ≠ 34 := by omega
  refine ⟨?_, ?_, by omega, by omega, by omega, by simp; omega, by simp [h7]⟩
  · rw [lst_snoc, h1]; simp only [lst, if_neg hc', if_neg hq]
  · rw [lv_snoc, h1, ← h2]; simp only [lv, if_neg hc', if_neg hq]
local macro_rules | `(tactic| walk_at "call builtin:list.append cons nil") => `(tactic| (k_here; (with_reducible show wpAny _ _ (call (Value.builtin "list.append") [Value.ref _, _]) _ _ _); k_dflt (refine' append_K ?k1 ?k2 ?k3 ?_ ?z; (case k1 => k_asm); (case k2 => k_asm); (case k3 => exact Upd.head (OwnOff.ne (by assumption) (List.mem_singleton.mpr rfl))); (case z => exact LW_size (by assumption) (by assumption) (by assumption)); k_whole); intro h' F' N'; (try k_sweep)))
local macro_rules | `(tactic| walk_at "pyIter str") => `(tactic| k_dflt (k_state (fun pre (r q : Int) (ls : List Int) => LW pre r q ls) "reach" "quotes" "lives"))
theorem lives_spec {w : World} {mean : ExcName → Option Value} {mg mb : Str → Option Value} {x : Str} {t : Tok} (hx : x.length ≤ 100) :
    Tells1 PySem.Challenge.rw_rw0061_01.row.prog w (Mine.hd.heap_39 w.params) topProg (looseW Mine.hd.view_39 [Str.ofString "fmean", Str.ofString "quantiles"] ++ (recsOf Mine.hd.view_39).map (·.name) ++ (litsOf Mine.hd.view_39).map (·.1) ++ (clssOf Mine.hd.view_39 (looseW Mine.hd.view_39 [Str.ofString "fmean", Str.ofString "quantiles"])).map (·.name)) mean mg mb 145 [.str x t] (fun _ => True) 3 24 (fun v nw => ∃ l vs n, v = .ref l ∧ nw = [(l, listOf vs.toArray n)] ∧ IntsAre vs (lv (KStt.codes x) 4 0)) := by
  k_with_none
  w_top off
  k_fill
  unfold Tells1
  intro dp un gd cn cs a ccd cl outer A₀ base h₀ L m news s Q E B F X N T hk hpre hd hu hret
  refine wpAny_call ?_
  k_dflt ((refine' code_pure ?k1 ?k2 ?k3 ?k4 ?k5 ?kA ?kF ?kK ?k6 ?k7 ?k8 ?k9 ?kB ?_ ?c2 ?c3 ?c4 ?c5; (case kA => exact rfl); (case kF => exact rfl); (case kK => assumption); (case k1 => k_asm); (case k2 => k_asm); (case k3 => k_asm); (case k4 => k_asm); (case k5 => k_asm); (case k6 => k_is); (case k7 => k_is); (case k8 => ktr_room); (case k9 => exact BindsTo.of_eq rfl); (case c5 => decide); (case kB => exact locs rfl); (case c2 => exact rfl); (case c3 => exact rfl); (case c4 => exact rfl); k_whole; intro g' L' h' hg' F' N' B' X' T'; (try dsimp only); (try k_lift B'); (try k_fold)))
  have hnil : IntsAre [] [] := IntsAre.nil
  k_with "pyIter str" => fail "mine first"
  k_with "state" => first | exact LW_start | exact LW_q (by assumption) (by assumption) | exact LW_n1 (by assumption) (by assumption) (by assumption) | exact LW_n0 (by assumption) (by assumption) (by assumption)
  k_steps
  exact ret_pure hret (by k_asm) F N (by assumption) (by assumption) (by k_asm) ⟨_, _, _, rfl, rfl, LW_end (by assumption) (by assumption)⟩
end Mine
end

section
open PySem PySem.W PySem.Calls PySem.Spec PyProof.Rows
namespace Mine

abbrev hd257 : Str := Str.ofString "257 \""
theorem sl1 (x : Str) : Txt.slice (Str.ofString "257 \"" ++ x) none (some 3) = Str.ofString "257" := by
  show StrLaws.sliceText (Str.ofString "257 \"" ++ x) none (some 3) = _
  rw [StrLaws.sliceText_to (by rw [Str.cps_append, Array.toList_append]; simp; rw [show (Str.ofString "257 \"").cps.size = 5 by decide]; omega)]
  rw [Str.cps_append, Array.toList_append, show (Str.ofString "257 \"").cps.toList = [50, 53, 55, 32, 34] by decide]
  show (Str.mk [50, 53, 55].toArray) = _
  decide
theorem sl2 (x : Str) : Txt.slice (Str.ofString "257 \"" ++ x) (some 3) (some 5) = Str.ofString " \"" := by
  show StrLaws.sliceText (Str.ofString "257 \"" ++ x) (some 3) (some 5) = _
  rw [StrLaws.sliceText_plain (by rw [Str.cps_append, Array.toList_append]; simp; rw [show (Str.ofString "257 \"").cps.size = 5 by decide]; omega)]
  rw [Str.cps_append, Array.toList_append, show (Str.ofString "257 \"").cps.toList = [50, 53, 55, 32, 34] by decide]
  show (Str.mk [32, 34].toArray) = _
  decide
local macro_rules | `(tactic| walk_at "compareOp NotEq str str") => `(tactic| ((simp only [sl1, sl2]); walk_at "compareOp NotEq str str"))

/-- one reading of the signs -/
def rdL : List Nat → List Nat
  | [] => []
  | c :: cs => if c = 34 then (match cs with | [] => [] | d :: ds => if d = 34 then 34 :: rdL ds else []) else c :: rdL cs
def rd (x : Str) : Str := ⟨(rdL x.cps.toList).toArray⟩
def RW (x : Str) (i : Int) (d : Str) : Prop := 5 ≤ i ∧ i ≤ 5 + x.length ∧ d.length ≤ i ∧ d.cps.toList ++ rdL (x.cps.toList.drop (i - 5).toNat) = rdL x.cps.toList

theorem item_cp {prog : Program} {w : World} {A : Around} {E : Value → Shared → Prop} {s : Shared} {value slice : Expr} {x : Str} {t u : Tok} {i : Int} {Q : Value → Shared → Prop} (hx : x.length ≤ 100) (h5 : 5 ≤ i) (h2 : i < (((Str.ofString "257 \"").length + x.length : Nat) : Int))
    (h : ∀ c, x.cps.toList[(i - 5).toNat]? = some c → Q (.str ⟨#[c]⟩ s.toks) { s with toks := s.toks + 1 })
    (hs : subscripted slice false (.str (Str.ofString "257 \"" ++ x) t) (.int i u) = operate [.str (Str.ofString "257 \"" ++ x) t, .int i u] (getItem (.str (Str.ofString "257 \"" ++ x) t) (.int i u)) := by with_unfolding_all rfl)
    (ht : ∀ r, letTemporaryGo value (.str (Str.ofString "257 \"" ++ x) t) r = pure () := by intro _; with_unfolding_all rfl) :
    wpAny (model prog w) A (subscriptTail value slice (.str (Str.ofString "257 \"" ++ x) t) (.int i u)) Q E s := by
  have l5 : (Str.ofString "257 \"").length = 5 := by decide
  have ln : (Str.ofString "257 \"" ++ x).length = 5 + x.length := by rw [Str.length_append, l5]
  refine PyProof.Rows.item_str (fitsSsize_of (N := 9223372036854775808) (by omega) (by omega) (Int.le_refl _)) (by omega) (by omega) (fun _ => ?_) hs ht
  have hi : (i - 5).toNat < x.cps.toList.length := by rw [Array.length_toList]; show _ < x.length; omega
  have e : (Str.ofString "257 \"" ++ x).cps[i.toNat]? = some x.cps.toList[(i - 5).toNat] := by
    rw [Str.cps_append, ← Array.getElem?_toList, Array.toList_append, List.getElem?_append_right (by rw [show (Str.ofString "257 \"").cps.toList.length = 5 by decide]; omega), show (Str.ofString "257 \"").cps.toList.length = 5 by decide, show i.toNat - 5 = (i - 5).toNat by omega]
    exact List.getElem?_eq_getElem hi
  have := StrLaws.at_nonneg (by omega : 0 ≤ i) e
  have e2 : Txt.item (Str.ofString "257 \"" ++ x) i = ⟨#[x.cps.toList[(i - 5).toNat]]⟩ := by
    unfold Txt.item Txt.charAt
    rw [this]
    rfl
  rw [e2]
  exact h _ (List.getElem?_eq_getElem hi)
theorem sign_eq' {c : Nat} (h : (({ cps := #[c] } : Str) == Str.ofString "\"") = true) : c = 34 := by
  have e : ({ cps := #[c] } : Str) = { cps := #[34] } := (beq_iff_eq.mp h).trans (by decide)
  have := congrArg (fun s : Str => s.cps.toList) e
  simpa using this
theorem sign_ne' {c : Nat} (h : (({ cps := #[c] } : Str) == Str.ofString "\"") = false) : c ≠ 34 := by
  rintro rfl
  have : (({ cps := #[34] } : Str) == Str.ofString "\"") = true := by decide
  rw [this] at h; cases h
theorem rdL_n {c : Nat} {cs : List Nat} (h : c ≠ 34) : rdL (c :: cs) = c :: rdL cs := by
  conv => lhs; unfold rdL
  exact if_neg h
theorem drop_at {l : List Nat} {k c : Nat} (h : l[k]? = some c) : l.drop k = c :: l.drop (k + 1) := by
  obtain ⟨hk, e⟩ := List.getElem?_eq_some_iff.mp h
  rw [List.drop_eq_getElem_cons hk, e]
theorem snoc_list (d : Str) (c : Nat) : (d ++ (⟨#[c]⟩ : Str)).cps.toList = d.cps.toList ++ [c] := by rw [Str.cps_append, Array.toList_append]
theorem RW_start (x : Str) : RW x 5 (Str.ofString "") := by
  refine ⟨by omega, by omega, ?_, ?_⟩
  · have : (Str.ofString "").length = 0 := by decide
    omega
  · rw [show (Str.ofString "").cps.toList = [] by decide]; rfl
theorem str_ext' {d : Str} {l : List Nat} (h : d.cps.toList = l) : d = ⟨l.toArray⟩ := by subst h; rfl
theorem RW_e3 {x : Str} {i : Int} {d : Str} (h : RW x i d) (h2 : ¬ i < (((Str.ofString "257 \"").length + x.length : Nat) : Int)) : d = rd x := by
  have l5 : (Str.ofString "257 \"").length = 5 := by decide
  obtain ⟨h1, h3, h4, h5⟩ := h
  have : x.cps.toList.length ≤ (i - 5).toNat := by rw [Array.length_toList]; show x.length ≤ _; omega
  rw [List.drop_eq_nil_of_le this] at h5
  exact str_ext' (by simpa [rdL] using h5)
theorem RW_e1 {x : Str} {i : Int} {d : Str} {c : Nat} (h : RW x i d) (hc : x.cps.toList[(i - 5).toNat]? = some c) (hq : (({ cps := #[c] } : Str) == Str.ofString "\"") = true) (h2 : (((Str.ofString "257 \"").length + x.length : Nat) : Int) ≤ i + 1) : d = rd x := by
  have l5 : (Str.ofString "257 \"").length = 5 := by decide
  obtain ⟨h1, h3, h4, h5⟩ := h
  have : x.cps.toList.length ≤ (i - 5).toNat + 1 := by rw [Array.length_toList]; show x.length ≤ _; omega
  rw [drop_at hc, List.drop_eq_nil_of_le this, sign_eq' hq] at h5
  exact str_ext' (by simpa [rdL] using h5)
theorem RW_e2 {x : Str} {i : Int} {d : Str} {c c2 : Nat} (h : RW x i d) (hc : x.cps.toList[(i - 5).toNat]? = some c) (hq : (({ cps := #[c] } : Str) == Str.ofString "\"") = true) (hc2 : x.cps.toList[(i + 1 - 5).toNat]? = some c2) (hq2 : (({ cps := #[c2] } : Str) != Str.ofString "\"") = true) : d = rd x := by
  obtain ⟨h1, h3, h4, h5⟩ := h
  rw [show (i + 1 - 5).toNat = (i - 5).toNat + 1 by omega] at hc2
  have hn : c2 ≠ 34 := sign_ne' (by simpa [bne] using hq2)
  rw [drop_at hc, drop_at hc2, sign_eq' hq] at h5
  exact str_ext' (by simpa [rdL, hn] using h5)
theorem RW_q {x : Str} {i : Int} {d : Str} {c c2 : Nat} (h : RW x i d) (hc : x.cps.toList[(i - 5).toNat]? = some c) (hq : (({ cps := #[c] } : Str) == Str.ofString "\"") = true) (hc2 : x.cps.toList[(i + 1 - 5).toNat]? = some c2) (hq2 : (({ cps := #[c2] } : Str) != Str.ofString "\"") = false) : RW x (i + 1 + 1) (d ++ ⟨#[c]⟩) := by
  obtain ⟨h1, h3, h4, h5⟩ := h
  rw [show (i + 1 - 5).toNat = (i - 5).toNat + 1 by omega] at hc2
  have hn : c2 = 34 := sign_eq' (by simpa [bne] using hq2)
  have hl := (List.getElem?_eq_some_iff.mp hc2).1
  rw [Array.length_toList] at hl
  have hl : (i - 5).toNat + 1 < x.length := hl
  rw [drop_at hc, drop_at hc2, sign_eq' hq] at h5
  refine ⟨by omega, by omega, ?_, ?_⟩
  · rw [Str.length_append]; have : ({ cps := #[c] } : Str).length = 1 := rfl; omega
  · rw [snoc_list, show (i + 1 + 1 - 5).toNat = (i - 5).toNat + 1 + 1 by omega, ← h5, sign_eq' hq]
    simp [rdL, hn]
theorem RW_n {x : Str} {i : Int} {d : Str} {c : Nat} (h : RW x i d) (hc : x.cps.toList[(i - 5).toNat]? = some c) (hq : (({ cps := #[c] } : Str) == Str.ofString "\"") = false) : RW x (i + 1) (d ++ ⟨#[c]⟩) := by
  obtain ⟨h1, h3, h4, h5⟩ := h
  have hn := sign_ne' hq
  have hl := (List.getElem?_eq_some_iff.mp hc).1
  rw [Array.length_toList] at hl
  have hl : (i - 5).toNat < x.length := hl
  rw [drop_at hc] at h5
  refine ⟨by omega, by omega, ?_, ?_⟩
  · rw [Str.length_append]; have : ({ cps := #[c] } : Str).length = 1 := rfl; omega
  · rw [snoc_list, show (i + 1 - 5).toNat = (i - 5).toNat + 1 by omega, ← h5]
    simp [rdL_n hn]
theorem RW_less1 {x : Str} {i : Int} (h2 : i < (((Str.ofString "257 \"").length + x.length : Nat) : Int)) : ((5 + x.length : Int) - (i + 1)).toNat < ((5 + x.length : Int) - i).toNat := by
  have l5 : (Str.ofString "257 \"").length = 5 := by decide
  omega
theorem RW_less2 {x : Str} {i : Int} (h2 : i < (((Str.ofString "257 \"").length + x.length : Nat) : Int)) : ((5 + x.length : Int) - (i + 1 + 1)).toNat < ((5 + x.length : Int) - i).toNat := by
  have l5 : (Str.ofString "257 \"").length = 5 := by decide
  omega
theorem RW_size {x : Str} {i : Int} {d : Str} {c : Nat} (h : RW x i d) (hx : x.length ≤ 100) : d.length + ({ cps := #[c] } : Str).length ≤ sizeLine := by
  have : ({ cps := #[c] } : Str).length = 1 := rfl
  obtain ⟨h1, h2, h3, h4⟩ := h
  exact Nat.le_trans (by omega : _ ≤ 200) (by decide)
theorem RW.five {x : Str} {i : Int} {d : Str} (h : RW x i d) : 5 ≤ i := h.1
local macro_rules | `(tactic| walk_at "subscriptTail Name Name str int") => `(tactic| (k_dflt (refine item_cp (by assumption) (by have h9 := RW.five (by assumption); omega) (by omega) ?_); intro c9 hc9))
local macro_rules | `(tactic| walk_at "binaryOp Add str str") => `(tactic| (k_dflt (refine PyProof.Rows.add_str (fun t9 tk9 => ?_) (RW_size (by assumption) (by assumption)))))

theorem parse_spec {w : World} {mean : ExcName → Option Value} {mg mb : Str → Option Value} {x : Str} {t : Tok} (hx : x.length ≤ 100) :
    Tells1 PySem.Challenge.rw_rw0061_01.row.prog w (Mine.hd.heap_39 w.params) topProg (looseW Mine.hd.view_39 [Str.ofString "fmean", Str.ofString "quantiles"] ++ (recsOf Mine.hd.view_39).map (·.name) ++ (litsOf Mine.hd.view_39).map (·.1) ++ (clssOf Mine.hd.view_39 (looseW Mine.hd.view_39 [Str.ofString "fmean", Str.ofString "quantiles"])).map (·.name)) mean mg mb 124 [.str (Str.ofString "257 \"" ++ x) t] (fun _ => True) 3 24 (fun v nw => nw = [] ∧ ∃ t', v = .str (rd x) t') := by
  k_with_none
  w_top off
  k_fill
  unfold Tells1
  intro dp un gd cn cs a ccd cl outer A₀ base h₀ L m news s Q E B F X N T hk hpre hd hu hret
  refine wpAny_call ?_
  k_dflt ((refine' code_pure ?k1 ?k2 ?k3 ?k4 ?k5 ?kA ?kF ?kK ?k6 ?k7 ?k8 ?k9 ?kB ?_ ?c2 ?c3 ?c4 ?c5; (case kA => exact rfl); (case kF => exact rfl); (case kK => assumption); (case k1 => k_asm); (case k2 => k_asm); (case k3 => k_asm); (case k4 => k_asm); (case k5 => k_asm); (case k6 => k_is); (case k7 => k_is); (case k8 => ktr_room); (case k9 => exact BindsTo.of_eq rfl); (case c5 => decide); (case kB => exact locs rfl); (case c2 => exact rfl); (case c3 => exact rfl); (case c4 => exact rfl); k_whole; intro g' L' h' hg' F' N' B' X' T'; (try dsimp only); (try k_lift B'); (try k_fold)))
  k_with "exec While Compare cons nil" => k_while (fun script (i : Int) (d : Str) => RW x i d) (fun script (i : Int) (d : Str) => ((5 + x.length : Int) - i).toNat) "i" "dirname"
  k_with "state" => first | exact RW_start _ | exact RW_q (by assumption) (by assumption) (by assumption) (by assumption) (by assumption) | exact RW_n (by assumption) (by assumption) (by assumption)
  k_with "measure" => first | exact RW_less1 (by assumption) | exact RW_less2 (by assumption)
  k_steps
  all_goals exact ret_pure hret (by k_asm) F N (by assumption) (by assumption) (by k_asm) ⟨rfl, _, congrArg (fun x => Value.str x _) (by first | exact RW_e3 (by assumption) (by assumption) | exact RW_e1 (by assumption) (by assumption) (by assumption) (by assumption) | exact RW_e2 (by assumption) (by assumption) (by assumption) (by assumption) (by assumption))⟩
end Mine
end

section
open PySem PySem.W PySem.Calls PySem.Spec PyProof.Rows
namespace Mine

theorem rdL_le : ∀ (n : Nat) (l : List Nat), l.length ≤ n → (rdL l).length ≤ l.length
  | _, [], _ => by simp [rdL]
  | 0, c :: cs, h => by simp at h
  | n + 1, c :: cs, h => by
    have h : cs.length ≤ n := by simpa using h
    by_cases hc : c = 34
    · cases cs with
      | nil => simp [rdL, hc]
      | cons d ds =>
        by_cases hd : d = 34
        · have := rdL_le n ds (by simp at h; omega)
          simp [rdL, hc, hd]; omega
        · simp [rdL, hc, hd]
    · rw [rdL_n hc]
      have := rdL_le n cs h
      simp; omega
theorem rd_le (x : Str) : (rd x).length ≤ x.length := by
  have := rdL_le _ x.cps.toList (Nat.le_refl _)
  show (rdL x.cps.toList).toArray.size ≤ x.cps.size
  rw [List.size_toArray]; rw [Array.length_toList] at this; exact this
def rds : Nat → Str → Str
  | 0, x => x
  | n + 1, x => rd (rds n x)
theorem rds_le (x : Str) : ∀ n, (rds n x).length ≤ x.length
  | 0 => Nat.le_refl _
  | n + 1 => Nat.le_trans (rd_le _) (rds_le x n)
theorem rd100 {x : Str} (h : x.length ≤ 100) : (rd x).length ≤ 100 := Nat.le_trans (rd_le x) h
theorem head_size {x : Str} (h : x.length ≤ 100) : (Str.ofString "257 \"").length + x.length ≤ sizeLine := by
  have l5 : (Str.ofString "257 \"").length = 5 := by decide
  rw [l5]; exact Nat.le_trans (by omega : _ ≤ 200) (by decide)
local macro_rules | `(tactic| walk_at "call ref") => `(tactic| (k_here; (with_reducible show wpAny _ _ (call (Value.ref 124) [Value.str _ _]) _ _ _); k_dflt (refine' use1 (parse_spec (by repeat (first | assumption | refine rd100 ?_))) ?k1 ?k2 ?k3 ?k4 ?k5 ?kK ?kp ?kd ?ku ?_; (case k1 => k_asm); (case k2 => k_asm); (case k3 => k_asm); (case k4 => k_asm); (case k5 => k_asm); (case kK => first | exact rfl | assumption); (case kp => exact trivial); (case kd => ktr_room); (case ku => ktr_units)); intro v9 nw9 h9 tk9 F9 N9 kp9 hne9 ho9; (obtain ⟨e9, t9, e8⟩ := ho9; subst e9; subst e8); (try simp only [List.nil_append] at N9); (try dsimp only); (try k_fold)))
local macro_rules | `(tactic| walk_at "binaryOp Add str str") => `(tactic| (k_dflt (refine PyProof.Rows.add_str (fun t9 tk9 => ?_) (head_size (by repeat (first | assumption | refine rd100 ?_))))))

theorem readings_spec {w : World} {mean : ExcName → Option Value} {mg mb : Str → Option Value} {x : Str} {t : Tok} (hx : x.length ≤ 100) :
    Tells1 PySem.Challenge.rw_rw0061_01.row.prog w (Mine.hd.heap_39 w.params) topProg (looseW Mine.hd.view_39 [Str.ofString "fmean", Str.ofString "quantiles"] ++ (recsOf Mine.hd.view_39).map (·.name) ++ (litsOf Mine.hd.view_39).map (·.1) ++ (clssOf Mine.hd.view_39 (looseW Mine.hd.view_39 [Str.ofString "fmean", Str.ofString "quantiles"])).map (·.name)) mean mg mb 152 [.str x t] (fun _ => True) 4 40 (fun v nw => ∃ l t1 t2 t3 t4 n, v = .ref l ∧ nw = [(l, listOf #[.str (rd x) t1, .str (rd (rd x)) t2, .str (rd (rd (rd x))) t3, .str (rd (rd (rd (rd x)))) t4] n)]) := by
  k_with_none
  w_top off
  k_fill
  unfold Tells1
  intro dp un gd cn cs a ccd cl outer A₀ base h₀ L m news s Q E B F X N T hk hpre hd hu hret
  refine wpAny_call ?_
  k_dflt ((refine' code_pure ?k1 ?k2 ?k3 ?k4 ?k5 ?kA ?kF ?kK ?k6 ?k7 ?k8 ?k9 ?kB ?_ ?c2 ?c3 ?c4 ?c5; (case kA => exact rfl); (case kF => exact rfl); (case kK => assumption); (case k1 => k_asm); (case k2 => k_asm); (case k3 => k_asm); (case k4 => k_asm); (case k5 => k_asm); (case k6 => k_is); (case k7 => k_is); (case k8 => ktr_room); (case k9 => exact BindsTo.of_eq rfl); (case c5 => decide); (case kB => exact locs rfl); (case c2 => exact rfl); (case c3 => exact rfl); (case c4 => exact rfl); k_whole; intro g' L' h' hg' F' N' B' X' T'; (try dsimp only); (try k_lift B'); (try k_fold)))
  k_steps
  exact ret_pure (nw := [_]) hret (by k_asm) F N (by assumption) (by assumption) (news_sub (by k_asm) (by intro p hp; rw [List.mem_singleton.mp hp]; k_mem)) ⟨_, _, _, _, _, _, rfl, rfl⟩
end Mine
end

section
open PySem PySem.W PySem.Calls PySem.Spec PyProof.Rows
namespace Mine
/-- the signs as ints -/
def ci (l : List Nat) : List Int := l.map fun (c : Nat) => (c : Int)
/-- what a reading makes of signs with their lives -/
def stp : List (Nat × Int) → List (Nat × Int)
  | [] => []
  | p :: l => if 0 < p.2 then (p.1, p.2 - 1) :: stp l else stp l
def zl (cs : List Nat) (r q : Int) : List (Nat × Int) := cs.zip (lv (ci cs) r q)
theorem rdL_1 : rdL [34] = [] := by simp [rdL]
theorem rdL_2 (ds : List Nat) : rdL (34 :: 34 :: ds) = 34 :: rdL ds := by simp [rdL]
theorem rdL_3 {d : Nat} {ds : List Nat} (h : d ≠ 34) : rdL (34 :: d :: ds) = [] := by simp [rdL, h]
theorem zl_nil (r q : Int) : zl [] r q = [] := rfl
theorem zl_q (cs : List Nat) (r q : Int) : zl (34 :: cs) r q = (34, min r (halv (q + 1))) :: zl cs r (q + 1) := by
  unfold zl; simp [ci, lv]
theorem zl_n {c : Nat} (cs : List Nat) (r q : Int) (h : c ≠ 34) : zl (c :: cs) r q = (c, if q > 0 then min r (halv q) else r) :: zl cs (if q > 0 then min r (halv q) else r) 0 := by
  have h' : (c : Int) ≠ 34 := by omega
  unfold zl; simp [ci, lv, h']
theorem halv_odd {n : Int} (h : n % 2 = 1) : halv n = 0 := halv_odd' (by omega)
theorem halv_dbl {r p : Int} (h0 : 0 ≤ r) (h3 : r ≤ 3) : min (r + 1) (halv (2 * p)) = min r (halv p) + 1 := by
  rw [halv_two]
  generalize halv p = q
  omega
theorem stp_dead : ∀ (cs : List Nat) (q : Int), stp (zl cs 0 q) = []
  | [], q => rfl
  | c :: cs, q => by
    by_cases hc : c = 34
    · subst hc
      rw [zl_q]
      have := halv_le (q + 1)
      unfold stp
      rw [if_neg (by simp only; omega)]
      exact stp_dead cs _
    · rw [zl_n _ _ _ hc]
      have e : (if q > 0 then min 0 (halv q) else 0) = 0 := by have := halv_le q; split <;> omega
      rw [e]
      unfold stp
      rw [if_neg (by simp only; omega)]
      exact stp_dead cs _
theorem stp_one : ∀ (n : Nat) (cs : List Nat) (r p : Int), cs.length ≤ n → 0 ≤ r → r ≤ 3 → 0 ≤ p → stp (zl cs (r + 1) (2 * p)) = zl (rdL cs) r p
  | _, [], r, p, _, _, _, _ => by simp [rdL, zl_nil, stp]
  | 0, c :: cs, r, p, h, _, _, _ => by simp at h
  | n + 1, c :: cs, r, p, h, h0, h3, hp => by
    have h : cs.length ≤ n := by simpa using h
    by_cases hc : c = 34
    · subst hc
      rw [zl_q, halv_odd (by omega)]
      have e0 : min (r + 1) 0 = 0 := by omega
      rw [e0]
      unfold stp
      rw [if_neg (by simp only; omega)]
      cases cs with
      | nil => rw [rdL_1]; rfl
      | cons d ds =>
        by_cases hd : d = 34
        · subst hd
          rw [zl_q, rdL_2, zl_q, show 2 * p + 1 + 1 = 2 * (p + 1) by omega, halv_dbl h0 h3]
          have := halv_le (p + 1)
          unfold stp
          rw [if_pos (by simp only; omega), stp_one n ds r (p + 1) (by simp at h; omega) h0 h3 (by omega)]
          congr 2; omega
        · rw [zl_n _ _ _ hd, rdL_3 hd, halv_odd (by omega)]
          have e1 : (if 2 * p + 1 > 0 then min (r + 1) 0 else r + 1) = 0 := by split <;> omega
          rw [e1]
          unfold stp
          rw [if_neg (by simp only; omega), stp_dead, zl_nil]
    · rw [zl_n _ _ _ hc, rdL_n hc, zl_n _ _ _ hc]
      have := halv_le p
      have e : (if 2 * p > 0 then min (r + 1) (halv (2 * p)) else r + 1) = (if p > 0 then min r (halv p) else r) + 1 := by
        rw [halv_dbl h0 h3]; split <;> split <;> omega
      rw [e]
      generalize hr : (if p > 0 then min r (halv p) else r) = r'
      have hr' : 0 ≤ r' ∧ r' ≤ 3 := by rw [← hr]; split <;> omega
      unfold stp
      rw [if_pos (by simp only; omega)]
      have := stp_one n cs r' 0 h hr'.1 hr'.2 (by omega)
      rw [show (2 : Int) * 0 = 0 by omega] at this
      rw [this]
      congr 2; omega
def rdsL : Nat → List Nat → List Nat
  | 0, l => l
  | n + 1, l => rdL (rdsL n l)
def stps : Nat → List (Nat × Int) → List (Nat × Int)
  | 0, l => l
  | n + 1, l => stp (stps n l)
theorem rdsL_zl (cs : List Nat) : ∀ (i : Nat), i ≤ 4 → zl (rdsL i cs) (4 - (i : Int)) 0 = stps i (zl cs 4 0)
  | 0, _ => rfl
  | i + 1, h => by
    show zl (rdL (rdsL i cs)) (4 - ((i + 1 : Nat) : Int)) 0 = stp (stps i (zl cs 4 0))
    rw [← rdsL_zl cs i (by omega)]
    have := stp_one _ (rdsL i cs) (4 - ((i + 1 : Nat) : Int)) 0 (Nat.le_refl _) (by omega) (by omega) (by omega)
    rw [show (2 : Int) * 0 = 0 by omega, show 4 - ((i + 1 : Nat) : Int) + 1 = 4 - (i : Int) by omega] at this
    exact this.symm
/-- the signs that live longer than i -/
theorem stps_eq : ∀ (i : Nat) (l : List (Nat × Int)), (stps i l).map Prod.fst = (l.filter fun p => decide ((i : Int) ≤ p.2 ∨ i = 0)).map Prod.fst := by
  intro i l
  have stp_eq : ∀ l, stp l = (l.filter fun p => decide (0 < p.2)).map fun p => (p.1, p.2 - 1) := by
    intro l
    induction l with
    | nil => rfl
    | cons p l ih =>
      unfold stp
      by_cases h : 0 < p.2
      · rw [if_pos h, List.filter_cons_of_pos (by simpa using h), ih]; rfl
      · rw [if_neg h, List.filter_cons_of_neg (by simpa using h), ih]
  have key : ∀ i : Nat, stps i l = (l.filter fun p => decide ((i : Int) ≤ p.2 ∨ i = 0)).map fun p => (p.1, p.2 - (i : Int)) := by
    intro i
    induction i with
    | zero =>
      show l = _
      rw [List.filter_eq_self.mpr (by intro p _; simp)]
      simp
    | succ i ih =>
      show stp (stps i l) = _
      rw [ih, stp_eq, List.filter_map, List.map_map, List.filter_filter]
      have e : (fun p : Nat × Int => ((fun p => decide (0 < p.2)) ∘ fun p : Nat × Int => (p.1, p.2 - (i : Int))) p && decide ((i : Int) ≤ p.2 ∨ i = 0)) = fun p => decide (((i + 1 : Nat) : Int) ≤ p.2 ∨ i + 1 = 0) := by
        funext p
        simp only [Function.comp, ← Bool.decide_and]
        exact decide_eq_decide.mpr (by omega)
      rw [e]
      apply List.map_congr_left
      intro p _
      simp only [Function.comp, Prod.mk.injEq, true_and]; omega
  rw [key i, List.map_map]
  rfl
theorem lv_len' : ∀ (cs : List Int) (r q : Int), (lv cs r q).length = cs.length
  | [], _, _ => rfl
  | c :: cs, r, q => by unfold lv; split <;> simp [lv_len' cs]
/-- the signs that the i-th reading tells -/
theorem rdsL_eq (cs : List Nat) (i : Nat) (h : i < 4) : rdsL (i + 1) cs = ((cs.zip (lv (ci cs) 4 0)).filter fun p => decide ((i : Int) < p.2)).map Prod.fst := by
  have e1 := congrArg (List.map Prod.fst) (rdsL_zl cs (i + 1) (by omega))
  rw [stps_eq] at e1
  have e2 : (zl (rdsL (i + 1) cs) (4 - ((i + 1 : Nat) : Int)) 0).map Prod.fst = rdsL (i + 1) cs := by
    unfold zl
    rw [List.map_fst_zip]
    rw [lv_len']; simp [ci]
  rw [e2] at e1
  rw [e1]
  unfold zl
  congr 2
  funext p
  exact decide_eq_decide.mpr (by omega)
theorem rdsL_len (cs : List Nat) (i : Nat) (h : i < 4) : (rdsL (i + 1) cs).length = (lv (ci cs) 4 0).countP fun l => decide ((i : Int) < l) := by
  rw [rdsL_eq cs i h, List.length_map]
  have : ∀ (a : List Nat) (b : List Int), b.length ≤ a.length → ((a.zip b).filter fun p => decide ((i : Int) < p.2)).length = b.countP fun l => decide ((i : Int) < l) := by
    intro a
    induction a with
    | nil => intro b hb; rw [List.length_eq_zero_iff.mp (Nat.le_zero.mp hb)]; rfl
    | cons x a ih =>
      intro b hb
      cases b with
      | nil => rfl
      | cons y b =>
        rw [List.zip_cons_cons, List.filter_cons, List.countP_cons, ← ih b (by simpa using hb)]
        split <;> simp_all
  exact this _ _ (by rw [lv_len']; simp [ci])
/-- how many live longer than i -/
def cg (i : Nat) (l : List Int) : Nat := l.countP fun n => decide ((i : Int) < n)
theorem cg_nil (i : Nat) : cg i [] = 0 := rfl
theorem cg_cons (i : Nat) (a : Int) (l : List Int) : cg i (a :: l) = cg i l + if (i : Int) < a then 1 else 0 := by
  unfold cg
  rw [List.countP_cons]
  simp only [decide_eq_true_eq]
theorem cnt_sum : ∀ (l : List Int), (∀ n ∈ l, 0 ≤ n ∧ n ≤ 4) → (cg 0 l : Int) + (cg 1 l : Int) + (cg 2 l : Int) + (cg 3 l : Int) = l.sum
  | [], _ => rfl
  | a :: l, h => by
    have ih := cnt_sum l fun n hn => h n (List.mem_cons_of_mem _ hn)
    have ha := h a List.mem_cons_self
    simp only [cg_cons, List.sum_cons]
    generalize cg 0 l = c0 at *
    generalize cg 1 l = c1 at *
    generalize cg 2 l = c2 at *
    generalize cg 3 l = c3 at *
    split <;> split <;> split <;> split <;> omega
theorem pow_small {a : Int} (h : 0 ≤ a ∧ a ≤ 4) : (2 : Int) ^ a.toNat = if 3 < a then 16 else if 2 < a then 8 else if 1 < a then 4 else if 0 < a then 2 else 1 := by
  have : a = 0 ∨ a = 1 ∨ a = 2 ∨ a = 3 ∨ a = 4 := by omega
  rcases this with rfl | rfl | rfl | rfl | rfl <;> decide
theorem cnt_pow : ∀ (l : List Int), (∀ n ∈ l, 0 ≤ n ∧ n ≤ 4) → (l.length : Int) + (cg 0 l : Int) + 2 * (cg 1 l : Int) + 4 * (cg 2 l : Int) + 8 * (cg 3 l : Int) = (l.map fun v => (2 : Int) ^ v.toNat).sum
  | [], _ => rfl
  | a :: l, h => by
    have ih := cnt_pow l fun n hn => h n (List.mem_cons_of_mem _ hn)
    have ha := h a List.mem_cons_self
    simp only [cg_cons, List.map_cons, List.sum_cons, List.length_cons, pow_small ha]
    generalize cg 0 l = c0 at *
    generalize cg 1 l = c1 at *
    generalize cg 2 l = c2 at *
    generalize cg 3 l = c3 at *
    generalize (List.map (fun v : Int => (2 : Int) ^ v.toNat) l).sum = S at *
    have : a = 0 ∨ a = 1 ∨ a = 2 ∨ a = 3 ∨ a = 4 := by omega
    rcases this with rfl | rfl | rfl | rfl | rfl <;> simp <;> omega
/-- two lists within nought and four with the same counts are one multiset -/
theorem perm_counts {a b : List Int} (ha : ∀ n ∈ a, 0 ≤ n ∧ n ≤ 4) (hb : ∀ n ∈ b, 0 ≤ n ∧ n ≤ 4) (hl : a.length = b.length) (h : ∀ i : Nat, i < 4 → a.countP (fun n => decide ((i : Int) < n)) = b.countP (fun n => decide ((i : Int) < n))) : a.Perm b := by
  have key : ∀ (l : List Int) (v : Int), l.count v + l.countP (fun n => decide (v < n)) = l.countP (fun n => decide (v - 1 < n)) := by
    intro l v
    induction l with
    | nil => rfl
    | cons x l ih =>
      simp only [List.count_cons, List.countP_cons, decide_eq_true_eq, beq_iff_eq]
      split <;> split <;> split <;> omega
  have lo : ∀ (l : List Int) (v : Int), (∀ n ∈ l, 0 ≤ n ∧ n ≤ 4) → v < 0 → l.countP (fun n => decide (v < n)) = l.length := by
    intro l v hl hv
    rw [List.countP_eq_length]
    intro n hn; have := hl n hn; simp; omega
  have hi : ∀ (l : List Int) (v : Int), (∀ n ∈ l, 0 ≤ n ∧ n ≤ 4) → 4 ≤ v → l.countP (fun n => decide (v < n)) = 0 := by
    intro l v hl hv
    rw [List.countP_eq_zero]
    intro n hn; have := hl n hn; simp; omega
  have all : ∀ v : Int, a.countP (fun n => decide (v < n)) = b.countP (fun n => decide (v < n)) := by
    intro v
    by_cases h0 : v < 0
    · rw [lo a v ha h0, lo b v hb h0, hl]
    · by_cases h4 : 4 ≤ v
      · rw [hi a v ha h4, hi b v hb h4]
      · have := h v.toNat (by omega)
        rw [show ((v.toNat : Nat) : Int) = v by omega] at this
        exact this
  rw [List.perm_iff_count]
  intro v
  have := key a v; have := key b v; have := all v; have := all (v - 1)
  omega
theorem range_count (n a : Nat) (h : a ≤ n) : (List.range n).countP (fun k : Nat => decide ((n : Int) - (k : Int) ≤ (a : Int))) = a := by
  have key : ∀ n a : Nat, a ≤ n → (List.range n).countP (fun k => decide (n - a ≤ k)) = a := by
    intro n
    induction n with
    | zero => intro a h; simp; omega
    | succ n ih =>
      intro a h
      rw [List.range_succ, List.countP_append, List.countP_singleton]
      rcases Nat.eq_zero_or_pos a with h0 | h0
      · subst h0
        rw [if_neg (by simp), List.countP_eq_zero.mpr]
        intro k hk; have := List.mem_range.mp hk; simp; omega
      · rw [if_pos (by simp; omega)]
        have := ih (a - 1) (by omega)
        rw [show n - (a - 1) = n + 1 - a by omega] at this
        rw [this]; omega
  have e : (fun k : Nat => decide ((n : Int) - (k : Int) ≤ (a : Int))) = fun k : Nat => decide (n - a ≤ k) := by
    funext k; exact decide_eq_decide.mpr (by omega)
  rw [e]; exact key n a h
theorem rds_cps (x : Str) : ∀ n, (rds n x).cps.toList = rdsL n x.cps.toList
  | 0 => rfl
  | n + 1 => by
    show (rdL (rds n x).cps.toList).toArray.toList = rdL (rdsL n x.cps.toList)
    rw [rds_cps x n]
theorem rds_eq (x : Str) (n : Nat) : rds n x = ⟨(rdsL n x.cps.toList).toArray⟩ := str_ext' (rds_cps x n)
end Mine
end

section
open PySem PySem.Float64
namespace Mine

theorem dist_zero {a b : Nat} (h : dist a b ≤ dist a a) : a = b := by unfold dist at h; omega

theorem repr_at (n : Nat) (hn : n < 2 ^ 53) : ∃ t, t < infMag ∧ V t = n * 2 ^ 1070 := by
  have hI : infMag = 2047 * 2 ^ 52 := rfl
  by_cases h0 : n = 0
  · exact ⟨0, by omega, by rw [h0, Nat.zero_mul]; exact V_zero⟩
  · have h1 := Nat.log2_self_le h0
    have h2 := Nat.lt_log2_self (n := n)
    have hj : n.log2 ≤ 52 := by
      have : n.log2 < 53 := (Nat.log2_lt h0).mpr hn
      omega
    generalize n.log2 = j at *
    have hq1 : 2 ^ 52 ≤ n * 2 ^ (52 - j) := by
      calc 2 ^ 52 = 2 ^ j * 2 ^ (52 - j) := by rw [← Nat.pow_add]; congr 1; omega
        _ ≤ n * 2 ^ (52 - j) := Nat.mul_le_mul_right _ h1
    have hq2 : n * 2 ^ (52 - j) < 2 ^ 53 := by
      calc n * 2 ^ (52 - j) < 2 ^ (j + 1) * 2 ^ (52 - j) := Nat.mul_lt_mul_of_pos_right h2 (Nat.two_pow_pos _)
        _ = 2 ^ 53 := by rw [← Nat.pow_add]; congr 1; omega
    refine ⟨(1018 + j) * 2 ^ 52 + n * 2 ^ (52 - j), by omega, ?_⟩
    rw [V_at (Nat.le_of_lt hq2) (.inl hq1), Nat.mul_assoc, ← Nat.pow_add]
    congr 2
    omega

theorem right_exact {r : UInt64} {neg : Bool} {W D n : Nat} (h : Right r neg W D) (hD : 0 < D) (hn : n < 2 ^ 53) (hW : W = D * (n * 2 ^ 1070)) : isFinite r = true ∧ val r = sgn neg (n * 2 ^ 1070) := by
  obtain ⟨t, rfl, hle, hov, hmin⟩ := h
  have ht : t < infMag := by
    rcases Nat.lt_or_ge t infMag with h | h
    · exact h
    · exfalso
      have := hov.mp (Nat.le_antisymm hle h)
      rw [hW, show ∀ K : Nat, 2 * (D * (n * K)) = D * (2 * n * K) from fun K => by ac_rfl] at this
      have h3 := Nat.le_of_mul_le_mul_left this hD
      have h4 : 2 * n * 2 ^ 1070 < (2 ^ 54 - 1) * 2 ^ 2045 := by
        calc 2 * n * 2 ^ 1070 ≤ (2 ^ 54 - 1) * 2 ^ 1070 := Nat.mul_le_mul_right _ (by omega)
          _ < (2 ^ 54 - 1) * 2 ^ 2045 := Nat.mul_lt_mul_of_pos_left (Nat.pow_lt_pow_right (by decide) (by decide)) (by decide)
      exact absurd h3 (Nat.not_le.mpr h4)
  obtain ⟨t', _, hV'⟩ := repr_at n hn
  have h5 := (hmin ht t').1
  rw [hV', ← hW] at h5
  have h6 := dist_zero h5
  rw [hW] at h6
  have h7 : V t = n * 2 ^ 1070 := (Nat.eq_of_mul_eq_mul_left hD h6).symm
  obtain ⟨m, e, hd, _⟩ := decode_pack neg ht
  exact ⟨by unfold isFinite; rw [hd], by rw [val_pack neg ht, h7]⟩

/-- a finite double whose worth is k sixteenths -/
def Fv (x : UInt64) (k : Int) : Prop := isFinite x = true ∧ val x = k * ((2 ^ 1070 : Nat) : Int)
theorem Fv.dec {x : UInt64} {k : Int} (h : Fv x k) : ∃ a m e, decode x = .fin a m e := by
  have := h.1
  unfold isFinite at this
  split at this
  · exact ⟨_, _, _, by assumption⟩
  · cases this
theorem U_pos : (0 : Int) < ((2 ^ 1070 : Nat) : Int) := Int.ofNat_lt.mpr (Nat.two_pow_pos _)
theorem fv_zero (b : Bool) : Fv (zero b) 0 := by
  refine ⟨by obtain ⟨m, e, hd, _⟩ := decode_pack b (t := 0) (by decide); unfold isFinite; show (match decode (pack b 0) with | .fin .. => true | _ => false) = true; rw [hd], ?_⟩
  have : val (pack b 0) = sgn b (V 0) := val_pack b (by decide)
  show val (pack b 0) = _
  rw [this, V_zero, Int.zero_mul]
  cases b <;> rfl
theorem sgn_abs {k : Int} (h : k ≠ 0) (K : Nat) : sgn (decide (k * (K : Int) < 0)) (k.natAbs * K) = k * (K : Int) ∨ K = 0 := by
  rcases Nat.eq_zero_or_pos K with h0 | h0
  · exact .inr h0
  · left
    have hp : (0 : Int) < K := by omega
    rcases Int.lt_or_gt_of_ne h with h1 | h1
    · have h2 : k * (K : Int) < 0 := Int.mul_neg_of_neg_of_pos h1 hp
      rw [decide_eq_true h2]
      show -((k.natAbs * K : Nat) : Int) = _
      rw [Int.natCast_mul, ← Int.neg_mul]
      congr 1; omega
    · have h2 : ¬ k * (K : Int) < 0 := Int.not_lt.mpr (Int.mul_nonneg (by omega) (by omega))
      rw [decide_eq_false h2]
      show ((k.natAbs * K : Nat) : Int) = _
      rw [Int.natCast_mul]
      congr 1; omega

theorem fv_add {x y : UInt64} {a b : Int} (hx : Fv x a) (hy : Fv y b) (h : (a + b).natAbs < 2 ^ 53) : Fv (add x y) (a + b) := by
  obtain ⟨_, _, _, dx⟩ := hx.dec
  obtain ⟨_, _, _, dy⟩ := hy.dec
  have hs : val x + val y = (a + b) * ((2 ^ 1070 : Nat) : Int) := by rw [hx.2, hy.2, Int.add_mul]
  have hr := add_right dx dy
  by_cases h0 : a + b = 0
  · rw [hr.1 (by rw [hs, h0, Int.zero_mul]), h0]
    exact fv_zero _
  · have hne : val x + val y ≠ 0 := by
      rw [hs]; exact Int.mul_ne_zero h0 (Int.ne_of_gt U_pos)
    have hR := hr.2 hne
    rw [hs] at hR
    have := right_exact hR (by decide) h (by rw [Int.natAbs_mul, Int.natAbs_natCast, Nat.one_mul])
    refine ⟨this.1, ?_⟩
    rw [this.2]
    rcases sgn_abs h0 (2 ^ 1070) with h | h
    · exact h
    · exact absurd h (Nat.ne_of_gt (Nat.two_pow_pos _))
theorem fv_neg {y : UInt64} {b : Int} (hy : Fv y b) : Fv (neg y) (-b) := by
  obtain ⟨_, _, _, dy⟩ := hy.dec
  refine ⟨by unfold isFinite; rw [neg_decode dy], ?_⟩
  rw [neg_val dy, hy.2, Int.neg_mul]
theorem fv_sub {x y : UInt64} {a b : Int} (hx : Fv x a) (hy : Fv y b) (h : (a - b).natAbs < 2 ^ 53) : Fv (sub x y) (a - b) := by
  have := fv_add hx (fv_neg hy) (by rw [← Int.sub_eq_add_neg]; exact h)
  rw [← Int.sub_eq_add_neg] at this
  unfold sub
  exact this
theorem fv_ofInt {n : Int} (h : n.natAbs < 2 ^ 49) : Fv (ofInt n) (16 * n) := by
  have hR := ofInt_right n
  have := right_exact (n := 16 * n.natAbs) hR (by decide) (by omega) (by rw [Nat.one_mul, show (1074 : Nat) = 4 + 1070 from rfl, Nat.pow_add, ← Nat.mul_assoc]; congr 1; omega)
  refine ⟨this.1, ?_⟩
  rw [this.2]
  unfold sgn
  generalize (2 : Nat) ^ 1070 = K
  split
  · rename_i h; simp at h; rw [Int.natCast_mul, ← Int.neg_mul]; congr 1; omega
  · rename_i h; simp at h; rw [Int.natCast_mul]; congr 1; omega
theorem fv_ofFrac {neg : Bool} {n d : Nat} {q : Nat} (hd : 0 < d) (h : n * 16 = q * d) (hq : q < 2 ^ 53) : Fv (ofFrac neg n d) (sgn neg q) := by
  have hR : Right (ofFrac neg n d) neg (n * 2 ^ 1074) d := ofFrac_right hd rfl hd
  have := right_exact (n := q) hR hd hq (by
    rw [show (1074 : Nat) = 4 + 1070 from rfl, Nat.pow_add]
    generalize (2 : Nat) ^ 1070 = K
    calc n * (2 ^ 4 * K) = n * 16 * K := by rw [Nat.mul_assoc]
      _ = q * d * K := by rw [h]
      _ = d * (q * K) := by ac_rfl)
  exact ⟨this.1, by rw [this.2, sgn_mul]⟩
theorem val_sign {x : UInt64} {a : Bool} {m : Nat} {e : Int} (h : decode x = .fin a m e) : val x = sgn a (val x).natAbs := by rw [val_natAbs h, val_eq h]
theorem sgn_bne (a b : Bool) (m n : Nat) : sgn (a != b) (m * n) = sgn a m * sgn b n := by
  unfold sgn
  cases a <;> cases b <;> simp [Int.natCast_mul, Int.neg_mul, Int.mul_neg]
theorem fv_natAbs {x : UInt64} {k : Int} (h : Fv x k) : (val x).natAbs = k.natAbs * 2 ^ 1070 := by rw [h.2, Int.natAbs_mul, Int.natAbs_natCast]
theorem fv_mul {x y : UInt64} {a n : Int} (hx : Fv x a) (hy : Fv y (16 * n)) (h : (a * n).natAbs < 2 ^ 53) : Fv (mul x y) (a * n) := by
  obtain ⟨sa, _, _, dx⟩ := hx.dec
  obtain ⟨sb, _, _, dy⟩ := hy.dec
  have hR := mul_right dx dy
  have hab : (a * n).natAbs = a.natAbs * n.natAbs := Int.natAbs_mul _ _
  have e16 : (16 * n).natAbs = 16 * n.natAbs := by rw [Int.natAbs_mul]; rfl
  have := right_exact (n := (a * n).natAbs) hR (Nat.two_pow_pos _) h (by
    rw [fv_natAbs hx, fv_natAbs hy, e16, hab, show (1074 : Nat) = 4 + 1070 from rfl, Nat.pow_add]
    generalize (2 : Nat) ^ 1070 = K
    generalize a.natAbs = p; generalize n.natAbs = q
    show p * K * (16 * q * K) = 16 * K * (p * q * K)
    ac_rfl)
  refine ⟨this.1, ?_⟩
  rw [this.2, sgn_mul, hab, sgn_bne]
  have e1 : val x = sgn sa a.natAbs * ((2 ^ 1070 : Nat) : Int) := by
    have := val_sign dx; rw [fv_natAbs hx, sgn_mul] at this; exact this
  have e2 : val y = sgn sb (16 * n.natAbs) * ((2 ^ 1070 : Nat) : Int) := by
    have := val_sign dy; rw [fv_natAbs hy, e16, sgn_mul] at this; exact this
  have k1 : sgn sa a.natAbs = a := Int.eq_of_mul_eq_mul_right (Int.ne_of_gt U_pos) (e1.symm.trans hx.2)
  have k2 : sgn sb (16 * n.natAbs) = 16 * n := Int.eq_of_mul_eq_mul_right (Int.ne_of_gt U_pos) (e2.symm.trans hy.2)
  have k3 : sgn sb n.natAbs = n := by unfold sgn at k2 ⊢; split at k2 <;> simp_all <;> omega
  rw [k1, k3]
theorem fv_div {x y : UInt64} {a b q : Int} (hx : Fv x a) (hy : Fv y b) (hb : b ≠ 0) (hq : 16 * a = q * b) (h : q.natAbs < 2 ^ 53) : Fv (div x y) q := by
  obtain ⟨sa, ma, ea, dx⟩ := hx.dec
  obtain ⟨sb, mb, eb, dy⟩ := hy.dec
  have hvb : (val y).natAbs ≠ 0 := by
    rw [fv_natAbs hy]
    exact Nat.mul_ne_zero (by omega) (Nat.ne_of_gt (Nat.two_pow_pos _))
  have hmb : mb ≠ 0 := by
    intro e
    rw [val_natAbs dy, e, Nat.zero_mul] at hvb
    exact hvb rfl
  have hR := div_right dx dy hmb
  have habs : 16 * a.natAbs = q.natAbs * b.natAbs := by
    have := congrArg Int.natAbs hq
    rw [Int.natAbs_mul, Int.natAbs_mul] at this
    exact this
  have := right_exact (n := q.natAbs) hR (Nat.pos_of_ne_zero hvb) h (by
    rw [fv_natAbs hx, fv_natAbs hy, show (1074 : Nat) = 4 + 1070 from rfl, Nat.pow_add]
    generalize (2 : Nat) ^ 1070 = K
    calc a.natAbs * K * (2 ^ 4 * K) = 16 * a.natAbs * (K * K) := by show a.natAbs * K * (16 * K) = _; ac_rfl
      _ = q.natAbs * b.natAbs * (K * K) := by rw [habs]
      _ = b.natAbs * K * (q.natAbs * K) := by ac_rfl)
  refine ⟨this.1, ?_⟩
  rw [this.2, sgn_mul]
  have e1 : val x = sgn sa a.natAbs * ((2 ^ 1070 : Nat) : Int) := by
    have := val_sign dx; rw [fv_natAbs hx, sgn_mul] at this; exact this
  have e2 : val y = sgn sb b.natAbs * ((2 ^ 1070 : Nat) : Int) := by
    have := val_sign dy; rw [fv_natAbs hy, sgn_mul] at this; exact this
  have k1 : sgn sa a.natAbs = a := Int.eq_of_mul_eq_mul_right (Int.ne_of_gt U_pos) (e1.symm.trans hx.2)
  have k2 : sgn sb b.natAbs = b := Int.eq_of_mul_eq_mul_right (Int.ne_of_gt U_pos) (e2.symm.trans hy.2)
  congr 1
  have hk : sgn (sa != sb) q.natAbs * b = q * b := by
    rw [← hq, ← k1, ← k2]
    calc sgn (sa != sb) q.natAbs * sgn sb b.natAbs = sgn ((sa != sb) != sb) (q.natAbs * b.natAbs) := (sgn_bne _ _ _ _).symm
      _ = sgn sa (16 * a.natAbs) := by rw [habs]; cases sa <;> cases sb <;> rfl
      _ = 16 * sgn sa a.natAbs := by rw [Nat.mul_comm, sgn_mul, Int.mul_comm]; rfl
      _ = 16 * sgn sa (sgn sa a.natAbs).natAbs := by rw [sgn_natAbs]
      _ = _ := by rw [sgn_natAbs]
  exact Int.eq_of_mul_eq_mul_right hb hk
theorem fv_cmpInt {x : UInt64} {k : Int} (h : Fv x k) (i : Int) : cmpInt x i = some (compare k (16 * i)) := by
  obtain ⟨_, _, _, dx⟩ := h.dec
  rw [cmpInt_right dx, h.2]
  congr 1
  have e : i * 2 ^ 1074 = 16 * i * ((2 ^ 1070 : Nat) : Int) := by
    rw [show (1074 : Nat) = 4 + 1070 from rfl, Int.pow_add, Int.natCast_pow]
    show i * (16 * 2 ^ 1070) = _
    rw [← Int.mul_assoc, Int.mul_comm i 16]; rfl
  rw [e]
  have hp := U_pos
  generalize ((2 ^ 1070 : Nat) : Int) = K at *
  generalize 16 * i = j
  rcases Int.lt_trichotomy k j with h | h | h
  · rw [Int.compare_eq_lt.mpr h, Int.compare_eq_lt.mpr (Int.mul_lt_mul_of_pos_right h hp)]
  · subst h; simp
  · rw [Int.compare_eq_gt.mpr h, Int.compare_eq_gt.mpr (Int.mul_lt_mul_of_pos_right h hp)]
theorem fv_isZero {x : UInt64} {k : Int} (h : Fv x k) : isZero x = decide (k = 0) := by
  obtain ⟨a, m, e, dx⟩ := h.dec
  have hv := fv_natAbs h
  rw [val_natAbs dx] at hv
  unfold isZero
  rw [dx]
  by_cases hk : k = 0
  · subst hk
    have : m * 2 ^ (e + 1074).toNat = 0 := by rw [hv]; simp
    have hm : m = 0 := (Nat.mul_eq_zero.mp this).resolve_right (Nat.ne_of_gt (Nat.two_pow_pos _))
    subst hm
    rfl
  · have hm : m ≠ 0 := by
      intro e0
      rw [e0, Nat.zero_mul] at hv
      exact Nat.mul_ne_zero (by omega : k.natAbs ≠ 0) (Nat.ne_of_gt (Nat.two_pow_pos _)) hv.symm
    cases m with
    | zero => exact absurd rfl hm
    | succ m => simp [hk]
end Mine
end

section
open PySem PySem.W PySem.Calls PySem.Spec PyProof.Rows
namespace Mine
open Float64 in
/-- fsum's partials for a sum of S sixteenths -/
def PS (ps : List UInt64) (S : Int) : Prop := (S = 0 ∧ ps = []) ∨ (S ≠ 0 ∧ ∃ y, ps = [y] ∧ Fv y S)
open Float64 in
theorem ps_step {ps : List UInt64} {S a : Int} {x : UInt64} (h : PS ps S) (hx : Fv x a) (h1 : S.natAbs < 2 ^ 51) (h2 : a.natAbs < 2 ^ 51) :
    isFinite (fsumAdd ps x).2 = true ∧ PS (if isZero (fsumAdd ps x).2 then (fsumAdd ps x).1 else (fsumAdd ps x).1 ++ [(fsumAdd ps x).2]) (S + a) := by
  rcases h with ⟨rfl, rfl⟩ | ⟨hS, y, rfl, hy⟩
  · have e : fsumAdd [] x = ([], x) := rfl
    rw [e]
    refine ⟨hx.1, ?_⟩
    rw [fv_isZero hx, Int.zero_add]
    by_cases h0 : a = 0
    · rw [if_pos (by simp [h0])]; exact .inl ⟨h0, rfl⟩
    · rw [if_neg (by simp [h0])]; exact .inr ⟨h0, x, rfl, hx⟩
  · have key : ∀ (u v : UInt64) (c d : Int), Fv u c → Fv v d → c + d = S + a → c.natAbs < 2 ^ 51 → d.natAbs < 2 ^ 51 → fsumAdd [y] x = (if isZero (sub v (sub (add u v) u)) then [] else [sub v (sub (add u v) u)], add u v) →
        isFinite (fsumAdd [y] x).2 = true ∧ PS (if isZero (fsumAdd [y] x).2 then (fsumAdd [y] x).1 else (fsumAdd [y] x).1 ++ [(fsumAdd [y] x).2]) (S + a) := by
      intro u v c d hu hv hcd hc hd e
      have f1 := fv_add hu hv (by omega)
      have f2 := fv_sub f1 hu (by omega)
      have f3 := fv_sub hv f2 (by omega)
      rw [show d - (c + d - c) = 0 by omega] at f3
      rw [e, fv_isZero f3, hcd] at *
      simp only [decide_true, if_true, List.nil_append]
      refine ⟨f1.1, ?_⟩
      rw [fv_isZero f1]
      by_cases h0 : S + a = 0
      · rw [if_pos (by simp [h0])]; exact .inl ⟨h0, rfl⟩
      · rw [if_neg (by simp [h0])]; exact .inr ⟨h0, _, rfl, f1⟩
    by_cases hlt : lt (abs x) (abs y) = true
    · exact key y x S a hy hx rfl h1 h2 (by simp only [fsumAdd, hlt, if_true])
    · exact key x y a S hx hy (by omega) h2 h1 (by simp only [fsumAdd]; rw [if_neg hlt])
open Float64 in
theorem ps_end {ps : List UInt64} {S : Int} (h : PS ps S) : Fv (fsumEnd ps) S := by
  rcases h with ⟨rfl, rfl⟩ | ⟨_, y, rfl, hy⟩
  · exact fv_zero _
  · exact hy

namespace FF
theorem entry_fsum : entryFor table "math.fsum" = some Builtin.«math.fsum» := entryFor_of_tree (by kernel_rfl)
theorem kind_fsum : builtinKind "math.fsum" = none := by kernel_rfl
theorem plain_fsum : plainId "math.fsum" = true := by decide +kernel
theorem args_fsum (a : Value) : argsOk "math.fsum" ⟨[a], []⟩ := by unfold argsOk; kernel_rfl
theorem entry_loop : entryFor table "math.fsum.loop" = some Builtin.«math.fsum.loop» := entryFor_of_tree (by kernel_rfl)
theorem plain_loop : plainId "math.fsum.loop" = true := by decide +kernel
end FF

def rawF (x : UInt64) : Value := rawInt x.toNat
theorem unpack_raw : ∀ ps : List UInt64, (ps.map rawF).toArray.toList.map (fun | .int i _ => i.toNat.toUInt64 | _ => 0) = ps
  | [] => rfl
  | x :: r => by
    have := unpack_raw r
    simp only [List.map_cons, rawF, rawInt] at this ⊢
    simp at this ⊢
    exact this
def HoldsBits (h : Heap) (a : Addr) (ps : List UInt64) : Prop := ∃ o n, h.get? a = some o ∧ o.data = .seq (ps.map rawF).toArray n
theorem HoldsBits.at {h h' : Heap} {a : Addr} {ps : List UInt64} (x : HoldsBits h a ps) (hk : ∀ o, h.get? a = some o → h'.get? a = some o) : HoldsBits h' a ps := by
  obtain ⟨o, n, e, d⟩ := x
  exact ⟨o, n, hk o e, d⟩
section
variable {prog : Program} {w : World} {A : Around} {E : Value → Shared → Prop} {s : Shared}
theorem wp_unpack {a : Addr} {ps : List UInt64} {Q : List UInt64 → Shared → Prop} (h : HoldsBits s.heap a ps) (hQ : Q ps s) :
    wpAny (model prog w) A (do return ((← seqItems? (.ref a)).getD #[]).toList.map fun | .int i _ => i.toNat.toUInt64 | _ => 0) Q E s := by
  obtain ⟨o, n, e, d⟩ := h
  refine wpAny_bind (wpAny_seqItems e d (wpAny_pure ?_))
  show Q ((ps.map rawF).toArray.toList.map _) s
  rw [unpack_raw]
  exact hQ
theorem not_over {n : Int} (h : n.natAbs < 2 ^ 47) : ¬ Flt.Over n := by
  intro o
  simp only [Flt.Over] at o
  have : (2 : Nat) ^ 64 ≤ 2 ^ 1024 - 2 ^ 970 := by decide +kernel
  generalize (2 : Nat) ^ 1024 - 2 ^ 970 = K at *
  omega
theorem fsum_loop {I : Addr} {fp wr : List Addr} {P : Nat → Value → Prop} {St : Nat → Heap → Prop} {ns : List Int} (W : Walks prog w A.in1 I fp wr ns.length P St) (hA : A.in1.handled = none)
    (hval : ∀ i v, P i v → ∃ n t, v = .int n t ∧ ns[i]? = some n) (hb : ∀ i, (16 * (ns.take i).sum).natAbs < 2 ^ 51) (hn : ∀ n ∈ ns, n.natAbs < 2 ^ 47) {R : Result → Shared → Prop} :
    ∀ (k i : Nat) (s : Shared) (ps : List UInt64) (Pa Sp : Addr), ns.length - i = k → i ≤ ns.length → St i s.heap → PS ps (16 * (ns.take i).sum) → HoldsBits s.heap Pa ps → HoldsBits s.heap Sp [Float64.zero false, Float64.zero false] → Sp ∉ wr →
    (∀ r h' tk t, Fv r (16 * ns.sum) → (∀ b o, b ∉ wr → s.heap.get? b = some o → h'.get? b = some o) → R (.ok (.ret (.float r t))) { s with heap := h', toks := tk }) →
    codeAny (model prog w) A (.builtin "math.fsum.loop" ⟨[.ref I, .ref Pa, .ref Sp], []⟩) R s := by
  intro k
  induction k with
  | zero =>
    intro i s ps Pa Sp hk hi hst hps hPa hSp hSw hR
    have hin : i = ns.length := by omega
    subst hin
    rw [List.take_length] at hps
    refine codeAny_builtin FF.entry_loop ?_
    rw [Around.under_plainId FF.plain_loop _]
    refine wpAny_bind (wp_unpack hPa ?_)
    refine wpAny_bind (wp_unpack hSp ?_)
    refine wpAny_bind (W.done s _ _ hst fun h' tk hkp => ?_)
    have hz : Float64.isZero (Float64.zero false) = true := by rw [fv_isZero (fv_zero false)]; rfl
    simp only [hz, Bool.not_true, Bool.false_eq_true, if_false]
    exact fun _ _ _ => hR _ h' (tk + 1) _ (ps_end hps) hkp
  | succ k ih =>
    intro i s ps Pa Sp hk hi hst hps hPa hSp hSw hR
    have hlt : i < ns.length := by omega
    refine codeAny_builtin FF.entry_loop ?_
    rw [Around.under_plainId FF.plain_loop _]
    refine wpAny_bind (wp_unpack hPa ?_)
    refine wpAny_bind (wp_unpack hSp ?_)
    refine wpAny_bind (W.item i s _ _ hlt hst fun v h' tk hP hst' hkp => ?_)
    obtain ⟨n, t, rfl, hni⟩ := hval i v hP
    have hnb := hn n (List.mem_of_getElem? hni)
    refine wpAny_bind (wpAny_holding (Flt.realArg_int hA (fun o => absurd o (not_over hnb)) fun _ => ?_))
    have fx := fv_ofInt (n := n) (by omega)
    have hs : 16 * (ns.take (i + 1)).sum = 16 * (ns.take i).sum + 16 * n := by
      rw [List.take_add_one, hni, List.sum_append]
      simp only [Option.toList_some, List.sum_cons, List.sum_nil]
      omega
    have st := ps_step hps fx (hb i) (by omega)
    rw [← hs] at st
    show wpAny _ _ (if Float64.isFinite (Float64.fsumAdd ps (Float64.ofInt n)).2 = true then _ else _) _ _ _
    rw [if_pos st.1]
    generalize hL : (if Float64.isZero (Float64.fsumAdd ps (Float64.ofInt n)).2 = true then (Float64.fsumAdd ps (Float64.ofInt n)).1 else (Float64.fsumAdd ps (Float64.ofInt n)).1 ++ [(Float64.fsumAdd ps (Float64.ofInt n)).2]) = L at *
    refine wpAny_bind ?_
    show wpAny _ _ (newTuple (L.map rawF)) _ _ _
    have hL1 : L.length ≤ 1 := by
      rcases st.2 with ⟨_, e⟩ | ⟨_, y, e, _⟩ <;> rw [e] <;> simp
    refine wpAny_newObj_type ?_ (by
      show (L.map rawF).toArray.size ≤ sizeLine
      rw [List.size_toArray, List.length_map]
      exact Nat.le_trans hL1 (by decide))
    refine wpAny_pure ⟨plainId_quiet FF.plain_loop _, ih (i + 1) _ L h'.objs.size Sp (by omega) hlt (W.frame _ _ _ hst' fun b hb o e => Heap.get?_push_of_some _ e) st.2
      ⟨_, _, Heap.get?_push_size _ rfl, rfl⟩ (hSp.at fun o e => Heap.get?_push_of_some _ (hkp _ _ hSw e)) hSw (fun r h'' tk'' t' hr hk' => ?_)⟩
    exact hR r h'' tk'' t' hr fun b o hbw e => hk' b o hbw (Heap.get?_push_of_some _ (hkp b o hbw e))
theorem ints_at {vs : List Value} {ns : List Int} : IntsAre vs ns → ∀ (i : Nat) (v : Value), vs[i]? = some v → ∃ n t, v = .int n t ∧ ns[i]? = some n
  | .nil, i, v, h => by simp at h
  | .cons n t _, 0, v, h => ⟨n, t, (Option.some.inj h).symm, rfl⟩
  | .cons _ _ k, i + 1, v, h => ints_at k i v h
theorem call_fsum {l : Addr} {vs : List Value} {ns : List Int} {h₀ : Heap} {L : Addr} {m : Str → Option Value} {news : List (Addr × Obj)} {Q : Value → Shared → Prop} (hA : A.handled = none) (F : Fr h₀ L s.heap m) (N : News h₀ L s.heap news) (hl : s.heap.IsList l vs.toArray) (hi : IntsAre vs ns)
    (hb : ∀ i, (16 * (ns.take i).sum).natAbs < 2 ^ 51) (hn : ∀ n ∈ ns, n.natAbs < 2 ^ 47)
    (h : ∀ r h' tk t, Fv r (16 * ns.sum) → Fr h₀ L h' m → News h₀ L h' news → (∀ b o, s.heap.get? b = some o → h'.get? b = some o) → Q (.float r t) { s with heap := h', toks := tk }) :
    wpAny (model prog w) A (call (.builtin "math.fsum") [.ref l]) Q E s := by
  refine call_function_tree FF.kind_fsum FF.plain_fsum FF.entry_fsum (FF.args_fsum _) ?_
  refine wpAny_bind (wpAny_pure ?_)
  refine wpAny_bind (Flt.iter_list_ hl fun s₂ e st hfp hlI => ?_)
  subst e
  have W := Walks.list (prog := prog) (w := w) (A := A.in1) hA s.heap.objs.size l hlI vs.toArray
  have hlen : vs.toArray.size = ns.length := by rw [List.size_toArray]; first | exact IntsAre.length hi | exact (IntsAre.length hi).symm
  rw [hlen] at W
  refine wpAny_bind ?_
  show wpAny _ _ (newTuple (([] : List UInt64).map rawF)) _ _ _
  refine wpAny_newObj_type ?_ (by show (_ : Array Value).size ≤ sizeLine; exact Nat.le_of_ble_eq_true rfl)
  refine wpAny_bind ?_
  show wpAny _ _ (newTuple ([Float64.zero false, Float64.zero false].map rawF)) _ _ _
  refine wpAny_newObj_type ?_ (by show (_ : Array Value).size ≤ sizeLine; exact Nat.le_of_ble_eq_true rfl)
  refine wpAny_pure ⟨plainId_quiet FF.plain_loop _, fsum_loop W hA (fun i v hv => ints_at hi i v (by simpa using hv)) hb hn ns.length 0 _ [] _ _ rfl (Nat.zero_le _) (W.frame _ _ _ st fun b _ o e => Heap.get?_push_of_some _ (Heap.get?_push_of_some _ e)) (.inl ⟨by simp, rfl⟩) ?_ ?_ ?_ fun r h' tk t hr hk => ?_⟩
  · exact ⟨_, _, Heap.get?_push_of_some _ (Heap.get?_push_size _ rfl), rfl⟩
  · exact ⟨_, _, Heap.get?_push_size _ rfl, rfl⟩
  · intro hm
    have := List.mem_singleton.mp hm
    simp only [Heap.size_push] at this
    exact absurd (show (s.heap.objs.size : Nat) + 1 + 1 = s.heap.objs.size from this) (by omega)
  · have kp : ∀ b o, s.heap.get? b = some o → h'.get? b = some o := fun b o e =>
      hk b o (fun hm => absurd ((List.mem_singleton.mp hm) ▸ Heap.lt_size e) (Nat.lt_irrefl _)) (Heap.get?_push_of_some _ (Heap.get?_push_of_some _ (Heap.get?_push_of_some _ e)))
    exact h r h' tk t hr (F.keeps kp) (N.grown kp) kp
end
end Mine
end

section
open PySem PySem.W PySem.Calls PySem.Spec PyProof.Rows
namespace Mine
namespace FF
theorem entry_sumprod : entryFor table "math.sumprod" = some Builtin.«math.sumprod» := entryFor_of_tree (by kernel_rfl)
theorem kind_sumprod : builtinKind "math.sumprod" = none := by kernel_rfl
theorem plain_sumprod : plainId "math.sumprod" = true := by decide +kernel
theorem args_sumprod (a b : Value) : argsOk "math.sumprod" ⟨[a, b], []⟩ := by unfold argsOk; kernel_rfl
theorem entry_sploop : entryFor table "math.sumprod.loop" = some Builtin.«math.sumprod.loop» := entryFor_of_tree (by kernel_rfl)
theorem plain_sploop : plainId "math.sumprod.loop" = true := by decide +kernel
end FF
def dotI : List Int → List Int → Int
  | a :: as, b :: bs => a * b + dotI as bs
  | _, _ => 0
section
variable {prog : Program} {w : World} {A : Around} {E : Value → Shared → Prop} {s : Shared}
theorem fits_small {a : Int} (h : a.natAbs < 2 ^ 60) : (decide (-(2 ^ 63) ≤ a) && decide (a ≤ Builtin.Math.maxSsize)) = true := by
  have : Builtin.Math.maxSsize = 9223372036854775807 := by decide
  rw [this]
  simp only [Bool.and_eq_true, decide_eq_true_eq]
  omega
theorem sumprod_loop {I J : Addr} {l1 l2 : Addr} {as bs : List Int} {P1 P2 : Nat → Value → Prop} {St1 St2 : Nat → Heap → Prop} (W1 : Walks prog w A.in1 I [I, l1] [I] as.length P1 St1) (W2 : Walks prog w A.in1 J [J, l2] [J] as.length P2 St2)
    (hIJ : I ≠ J) (hI2 : I ≠ l2) (hJ1 : J ≠ l1) (hlen : bs.length = as.length)
    (hv1 : ∀ i v, P1 i v → ∃ n t, v = .int n t ∧ as[i]? = some n) (hv2 : ∀ i v, P2 i v → ∃ n t, v = .int n t ∧ bs[i]? = some n)
    (ha : ∀ a ∈ as, a.natAbs < 2 ^ 25) (hb : ∀ b ∈ bs, b.natAbs < 2 ^ 25) {R : Result → Shared → Prop} :
    ∀ (k i : Nat) (s : Shared) (T : Int) (tt : Tok) (used : Bool) (Fl : Addr), as.length - i = k → i ≤ as.length → St1 i s.heap → St2 i s.heap → T.natAbs < 2 ^ 59 - k * 2 ^ 50 → (used = false → T = 0) → k ≤ 500 → HoldsBits s.heap Fl [0, 0, 0] → Fl ≠ I → Fl ≠ J →
    (∀ h' tk t, (∀ b o, b ≠ I → b ≠ J → s.heap.get? b = some o → h'.get? b = some o) → R (.ok (.ret (.int (T + dotI (as.drop i) (bs.drop i)) t))) { s with heap := h', toks := tk }) →
    codeAny (model prog w) A (.builtin "math.sumprod.loop" ⟨[.ref I, .ref J, .int 0 tt, .bool true, rawInt T, .bool used, .bool true, .ref Fl, .bool false], []⟩) R s := by
  intro k
  induction k with
  | zero =>
    intro i s T tt used Fl hk hi hst1 hst2 hT hu hk5 hF hFI hFJ hR
    have hin : i = as.length := by omega
    subst hin
    refine codeAny_builtin FF.entry_sploop ?_
    rw [Around.under_plainId FF.plain_sploop _]
    obtain ⟨oF, nF, eF, dF⟩ := hF
    refine wpAny_bind (wpAny_seqItems eF dF ?_)
    refine wpAny_bind (W1.done s _ _ hst1 fun h' tk hk1 => ?_)
    have hst2' : St2 as.length h' := W2.frame _ _ _ hst2 fun b hb o e => hk1 b o (fun hm => by
      rw [List.mem_singleton.mp hm] at hb
      rcases List.mem_cons.mp hb with h | h
      · exact hIJ h
      · exact hI2 (List.mem_singleton.mp h)) e
    refine wpAny_bind (wpAny_holding (W2.done _ _ _ hst2' fun h'' tk' hk2 => ?_))
    have kp : ∀ (b : Addr) (o : Obj), b ≠ I → b ≠ J → s.heap.get? b = some o → h''.get? b = some o := fun b o h1 h2 e => hk2 b o (fun hm => h2 (List.mem_singleton.mp hm)) (hk1 b o (fun hm => h1 (List.mem_singleton.mp hm)) e)
    rw [List.drop_length, ← hlen, List.drop_length, show dotI [] [] = 0 from rfl, Int.add_zero] at hR
    cases used with
    | true =>
      refine wpAny_bind (wpAny_rule (wpAny_bind (wpAny_mkInt (wpAny_bind (wpAny_holding (PyProof.Rows.add_int ?_))))))
      refine wpAny_bind (wpAny_rule ?_)
      rw [Int.zero_add]
      exact wpAny_pure (hR h'' _ _ kp)
    | false =>
      have := hu rfl
      subst this
      refine wpAny_bind (wpAny_rule ?_)
      refine wpAny_bind (wpAny_rule ?_)
      exact wpAny_pure (hR h'' _ _ kp)
  | succ k ih =>
    intro i s T tt used Fl hk hi hst1 hst2 hT hu hk5 hF hFI hFJ hR
    have hlt : i < as.length := by omega
    have hltb : i < bs.length := by omega
    refine codeAny_builtin FF.entry_sploop ?_
    rw [Around.under_plainId FF.plain_sploop _]
    obtain ⟨oF, nF, eF, dF⟩ := hF
    refine wpAny_bind (wpAny_seqItems eF dF ?_)
    refine wpAny_bind (W1.item i s _ _ hlt hst1 fun v h' tk hP1 hst1' hk1 => ?_)
    obtain ⟨a, ta, rfl, hai⟩ := hv1 i v hP1
    have hst2' : St2 i h' := W2.frame _ _ _ hst2 fun b hb o e => hk1 b o (fun hm => by
      rw [List.mem_singleton.mp hm] at hb
      rcases List.mem_cons.mp hb with h | h
      · exact hIJ h
      · exact hI2 (List.mem_singleton.mp h)) e
    refine wpAny_bind (wpAny_holding (W2.item i _ _ _ hlt hst2' fun v h'' tk' hP2 hst2'' hk2 => ?_))
    obtain ⟨b, tb, rfl, hbi⟩ := hv2 i v hP2
    have kp : ∀ (b : Addr) (o : Obj), b ≠ I → b ≠ J → s.heap.get? b = some o → h''.get? b = some o := fun b o h1 h2 e => hk2 b o (fun hm => h2 (List.mem_singleton.mp hm)) (hk1 b o (fun hm => h1 (List.mem_singleton.mp hm)) e)
    have hst1'' : St1 (i + 1) h'' := W1.frame _ _ _ hst1' fun b hb o e => hk2 b o (fun hm => by
      rw [List.mem_singleton.mp hm] at hb
      rcases List.mem_cons.mp hb with h | h
      · exact hIJ h.symm
      · exact hJ1 (List.mem_singleton.mp h)) e
    have hab := ha a (List.mem_of_getElem? hai)
    have hbb := hb b (List.mem_of_getElem? hbi)
    have hm : (a * b).natAbs < 2 ^ 50 := by
      rw [Int.natAbs_mul]
      exact Nat.lt_of_lt_of_le (Nat.mul_lt_mul_of_lt_of_lt hab hbb) (by decide)
    have e1 : as.drop i = a :: as.drop (i + 1) := by rw [List.drop_eq_getElem_cons hlt]; congr 1; exact Option.some.inj ((List.getElem?_eq_getElem hlt).symm.trans hai)
    have e2 : bs.drop i = b :: bs.drop (i + 1) := by rw [List.drop_eq_getElem_cons hltb]; congr 1; exact Option.some.inj ((List.getElem?_eq_getElem hltb).symm.trans hbi)
    rw [e1, e2, show ∀ x y, dotI (a :: x) (b :: y) = a * b + dotI x y from fun _ _ => rfl, ← Int.add_assoc] at hR
    have hfit : ((decide (-(2 ^ 63) ≤ a) && decide (a ≤ Builtin.Math.maxSsize)) && (decide (-(2 ^ 63) ≤ b) && decide (b ≤ Builtin.Math.maxSsize)) && (decide (-(2 ^ 63) ≤ a * b) && decide (a * b ≤ Builtin.Math.maxSsize)) && (decide (-(2 ^ 63) ≤ T + a * b) && decide (T + a * b ≤ Builtin.Math.maxSsize))) = true := by
      rw [fits_small (by omega), fits_small (by omega), fits_small (by omega), fits_small (by omega)]
      rfl
    show wpAny _ _ (if ((decide (-(2 ^ 63) ≤ a) && decide (a ≤ Builtin.Math.maxSsize)) && (decide (-(2 ^ 63) ≤ b) && decide (b ≤ Builtin.Math.maxSsize)) && (decide (-(2 ^ 63) ≤ a * b) && decide (a * b ≤ Builtin.Math.maxSsize)) && (decide (-(2 ^ 63) ≤ T + a * b) && decide (T + a * b ≤ Builtin.Math.maxSsize))) = true then _ else _) _ _ _
    rw [if_pos hfit]
    refine wpAny_bind (wpAny_pure ?_)
    refine wpAny_pure ⟨plainId_quiet FF.plain_sploop _, ih (i + 1) _ (T + a * b) tt true Fl (by omega) hlt hst1'' hst2'' (by omega) (fun h => by cases h) (by omega) ⟨oF, nF, kp _ _ hFI hFJ eF, dF⟩ hFI hFJ fun h3 tk3 t3 hk3 => hR h3 tk3 t3 fun b o h1 h2 e => hk3 b o h1 h2 (kp b o h1 h2 e)⟩
theorem call_sumprod {l1 l2 : Addr} {vs us : List Value} {as bs : List Int} {h₀ : Heap} {L : Addr} {m : Str → Option Value} {news : List (Addr × Obj)} {Q : Value → Shared → Prop} (hA : A.handled = none) (F : Fr h₀ L s.heap m) (N : News h₀ L s.heap news) (hl1 : s.heap.IsList l1 vs.toArray) (hi1 : IntsAre vs as) (hl2 : s.heap.IsList l2 us.toArray) (hi2 : IntsAre us bs)
    (hlen : bs.length = as.length) (h500 : as.length ≤ 500) (ha : ∀ a ∈ as, a.natAbs < 2 ^ 25) (hb : ∀ b ∈ bs, b.natAbs < 2 ^ 25)
    (h : ∀ h' tk t, Fr h₀ L h' m → News h₀ L h' news → (∀ b o, s.heap.get? b = some o → h'.get? b = some o) → Q (.int (dotI as bs) t) { s with heap := h', toks := tk }) :
    wpAny (model prog w) A (call (.builtin "math.sumprod") [.ref l1, .ref l2]) Q E s := by
  refine call_function_tree FF.kind_sumprod FF.plain_sumprod FF.entry_sumprod (FF.args_sumprod _ _) ?_
  refine wpAny_bind (wpAny_pure ?_)
  refine wpAny_bind (Flt.iter_list_ hl1 fun s₂ e st1 hfp1 hlI1 => ?_)
  subst e
  have hl2' : ({ s with heap := s.heap.push { cls := .type "list_iterator", data := .fields #[.ref l1, .int 0 0] } } : Shared).heap.IsList l2 us.toArray := hl2.push _
  refine wpAny_bind (wpAny_holding (Flt.iter_list_ hl2' fun s₃ e st2 hfp2 hlI2 => ?_))
  subst e
  have W1 := Walks.list (prog := prog) (w := w) (A := A.in1) hA s.heap.objs.size l1 hlI1 vs.toArray
  have W2 := Walks.list (prog := prog) (w := w) (A := A.in1) hA _ l2 hlI2 us.toArray
  have hlen1 : vs.toArray.size = as.length := by rw [List.size_toArray]; first | exact IntsAre.length hi1 | exact (IntsAre.length hi1).symm
  have hlen2 : us.toArray.size = as.length := by rw [List.size_toArray, ← hlen]; first | exact IntsAre.length hi2 | exact (IntsAre.length hi2).symm
  rw [hlen1] at W1
  rw [hlen2] at W2
  have z1 : l1 < s.heap.objs.size := by obtain ⟨_, e, _⟩ := hl1; exact Heap.lt_size e
  have z2 : l2 < s.heap.objs.size := by obtain ⟨_, e, _⟩ := hl2; exact Heap.lt_size e
  refine wpAny_bind (wpAny_mkInt ?_)
  refine wpAny_bind ?_
  show wpAny _ _ (newTuple (([Float64.zero false, Float64.zero false, Float64.zero false] : List UInt64).map rawF)) _ _ _
  refine wpAny_newObj_type ?_ (by show (_ : Array Value).size ≤ sizeLine; exact Nat.le_of_ble_eq_true rfl)
  have e0 : Float64.zero false = 0 := by decide
  have kp0 : ∀ (x : Heap) (o : Obj) b o', x.get? b = some o' → (x.push o).get? b = some o' := fun x o b o' e => Heap.get?_push_of_some _ e
  refine wpAny_pure ⟨plainId_quiet FF.plain_sploop _, sumprod_loop W1 W2 ?_ ?_ ?_ hlen (fun i v hv => ints_at hi1 i v (by simpa using hv)) (fun i v hv => ints_at hi2 i v (by simpa using hv)) ha hb as.length 0 _ 0 _ false _ rfl (Nat.zero_le _) (W1.frame _ _ _ st1 fun b _ o e => kp0 _ _ _ _ (kp0 _ _ _ _ e)) (W2.frame _ _ _ st2 fun b _ o e => kp0 _ _ _ _ e) ?_ (fun _ => rfl) h500 ?_ ?_ ?_ fun h' tk t hk => ?_⟩
  · simp only [Heap.size_push]; exact fun e => absurd (show (s.heap.objs.size : Nat) = s.heap.objs.size + 1 from e) (by omega)
  · exact fun e => absurd z2 (by rw [← e]; exact Nat.lt_irrefl _)
  · simp only [Heap.size_push]; exact fun e => absurd z1 (by rw [← e]; exact Nat.not_lt.mpr (Nat.le_succ _))
  · show (0 : Nat) < _
    have : as.length * 2 ^ 50 ≤ 500 * 2 ^ 50 := Nat.mul_le_mul_right _ h500
    omega
  · exact ⟨_, _, Heap.get?_push_size _ rfl, by rw [← e0]⟩
  · simp only [Heap.size_push]; exact fun e => absurd (show (s.heap.objs.size : Nat) + 1 + 1 = s.heap.objs.size from e) (by omega)
  · simp only [Heap.size_push]; exact fun e => absurd (show (s.heap.objs.size : Nat) + 1 + 1 = s.heap.objs.size + 1 from e) (by omega)
  · have kp : ∀ b o, s.heap.get? b = some o → h'.get? b = some o := fun b o e => by
      have hlt := Heap.lt_size e
      refine hk b o (fun hm => absurd (hm ▸ hlt) (Nat.lt_irrefl _)) (fun hm => ?_) (kp0 _ _ _ _ (kp0 _ _ _ _ (kp0 _ _ _ _ e)))
      rw [hm] at hlt
      simp only [Heap.size_push] at hlt
      exact absurd hlt (Nat.not_lt.mpr (Nat.le_succ _))
    rw [List.drop_zero, List.drop_zero, Int.zero_add] at *
    exact h h' tk t (F.keeps kp) (N.grown kp) kp
end
end Mine
end

section
open PySem PySem.W PySem.Calls PySem.Spec PyProof.Rows
namespace Mine

theorem div_rule {prog : Program} {w : World} {A : Around} {E : Value → Shared → Prop} {s : Shared} {r : UInt64} {t u : Tok} {k n q : Int} {Q : Value → Shared → Prop} (hA : A.handled = none) (hr : Fv r k) (hn : n ≠ 0) (hb : n.natAbs < 2 ^ 47) (hq : k = q * n) (hqb : q.natAbs < 2 ^ 53)
    (h : ∀ r' t' tk', Fv r' q → Q (.float r' t') { s with toks := tk' }) : wpAny (model prog w) A (binaryOp .Div (.float r t) (.int n u)) Q E s :=
  Flt.truediv_fi hA (fun o => absurd o (not_over hb)) (fun h0 => absurd h0 hn) fun _ _ => h _ _ _ (fv_div hr (fv_ofInt (by omega)) (by omega) (by rw [hq, Int.mul_left_comm]) hqb)
local macro_rules | `(tactic| walk_at "exec Try cons cons nil nil") => `(tactic| (refine wpAny_Try_except ?_))
local macro_rules | `(tactic| walk_at "call builtin:math.fsum cons nil") => `(tactic| (k_here; k_dflt (refine' call_fsum ?k1 ?k2 ?k3 ?k4 ?k5 ?k6 ?k7 ?_; (case k1 => rfl); (case k2 => k_asm); (case k3 => k_asm); (case k4 => is_list); (case k5 => assumption); (case k6 => assumption); (case k7 => assumption)); intro r9 h9 tk9 t9 hr9 F9 N9 kp9; (try dsimp only); (try k_fold)))
local macro_rules | `(tactic| walk_at "execs cons Raise nil") => `(tactic| (exfalso; omega))
theorem fmean_val {r : UInt64} {S q : Int} {n : Nat} (hr : Fv r (16 * S)) (h0 : 0 < n) (h500 : n ≤ 500) (hS : (16 * S).natAbs < 2 ^ 51) (hq : 16 * S = q * n) : Fv (Float64.div r (Float64.ofInt (n : Int))) q := by
  refine fv_div hr (fv_ofInt (by omega)) (by omega) (by rw [hq, Int.mul_left_comm]) ?_
  have := congrArg Int.natAbs hq
  rw [Int.natAbs_mul q, Int.natAbs_natCast] at this
  have h1 : q.natAbs ≤ q.natAbs * n := Nat.le_mul_of_pos_right _ h0
  omega

theorem fmean_spec {w : World} {mean : ExcName → Option Value} {mg mb : Str → Option Value} {l : Addr} {vs : List Value} {ns : List Int} {q : Int} (hi : IntsAre vs ns) (h0 : 0 < ns.length) (h500 : ns.length ≤ 500)
    (hb : ∀ i, (16 * (ns.take i).sum).natAbs < 2 ^ 51) (hn : ∀ n ∈ ns, n.natAbs < 2 ^ 47) (hq : 16 * ns.sum = q * ns.length) :
    Tells1 PySem.Challenge.rw_rw0061_01.row.prog w (Mine.hd.heap_39 w.params) topProg (looseW Mine.hd.view_39 [Str.ofString "fmean", Str.ofString "quantiles"] ++ (recsOf Mine.hd.view_39).map (·.name) ++ (litsOf Mine.hd.view_39).map (·.1) ++ (clssOf Mine.hd.view_39 (looseW Mine.hd.view_39 [Str.ofString "fmean", Str.ofString "quantiles"])).map (·.name)) mean mg mb 63 [.ref l] (fun h => h.IsList l vs.toArray) 4 40 (fun v nw => nw = [] ∧ ∃ r t, v = .float r t ∧ Fv r q) := by
  k_with_none
  w_top off
  k_fill
  unfold Tells1
  intro dp un gd cn cs a ccd cl outer A₀ base h₀ L m news s Q E B F X N T hk hpre hd hu hret
  refine wpAny_call ?_
  k_dflt ((refine' code_pureC ?k1 ?k2 ?k3 ?k5 ?kA ?kF ?kK ?k6 ?k7 ?k8 ?k9 ?kB ?kD ?_ ?c2 ?c3 ?c4; (case kA => exact rfl); (case kF => exact rfl); (case kK => assumption); (case k1 => k_asm); (case k2 => k_asm); (case k3 => k_asm); (case k5 => k_asm); (case k6 => k_is); (case k7 => k_is); (case k8 => ktr_room); (case k9 => first | exact BindsTo.of_eq rfl | exact binds_K (by k_in) rfl (by k_is) rfl rfl rfl); (case kB => exact rfl); (case kD => decide +kernel); (case c2 => exact rfl); (case c3 => exact rfl); (case c4 => exact rfl); k_whole; intro g' L' h' tk' cells' hg' F' N' Y' B' X' T'; k_cells Y'; (try simp only [List.cons_append, List.nil_append] at N'); (try dsimp only); (try k_lift B'); (try k_fold)))
  have hl9 := keepList hpre (by assumption)
  k_steps
  have hS := hb ns.length
  rw [List.take_length] at hS
  exact ret_pure (nw := []) hret (by k_asm) F N (by assumption) (by assumption) (PyProof.Rows.News.nil (L := (0 : Nat))) ⟨rfl, _, _, rfl, fmean_val (by assumption) h0 h500 hS hq⟩
end Mine
end

section
open PySem PySem.W PySem.Calls PySem.Spec PyProof.Rows
namespace Mine
local macro_rules | `(tactic| walk_at "exec Try cons cons nil nil") => `(tactic| (refine wpAny_Try_except ?_))
local macro_rules | `(tactic| walk_at "call builtin:math.fsum cons nil") => `(tactic| (k_here; k_dflt (refine' call_fsum ?k1 ?k2 ?k3 ?k4 ?k5 ?k6 ?k7 ?_; (case k1 => rfl); (case k2 => k_asm); (case k3 => k_asm); (case k4 => is_list); (case k5 => assumption); (case k6 => assumption); (case k7 => assumption)); intro r9 h9 tk9 t9 hr9 F9 N9 kp9; (try dsimp only); (try k_fold)))
local macro_rules | `(tactic| walk_at "call builtin:math.sumprod cons nil") => `(tactic| (k_here; k_dflt (refine' call_sumprod ?k1 ?k2 ?k3 ?k4 ?k5 ?k6 ?k7 ?k8 ?k9 ?k10 ?k11 ?_; (case k1 => rfl); (case k2 => k_asm); (case k3 => k_asm); (case k4 => is_list); (case k5 => assumption); (case k6 => is_list); (case k7 => assumption); (case k8 => assumption); (case k9 => assumption); (case k10 => assumption); (case k11 => assumption)); intro h9 tk9 t9 F9 N9 kp9; (try dsimp only); (try k_fold)))

theorem kitAt_list {h : Heap} {l : Addr} {its : Array Value} (x : h.IsList l its) : KitAt l "list" h := by
  obtain ⟨o, e, hc, _⟩ := x
  exact ⟨o, e, hc⟩
local macro_rules | `(tactic| walk_at "call builtin:isinstance cons nil") => `(tactic| (k_here; (with_reducible show wpAny _ _ (call _ [Value.ref _, Value.ref _]) _ _ _); k_dflt (refine' kia_tup kitx_list ?X ?c ?p ?ee ?nb ?_; (case c => exact kitAt_list (by is_list)); (case X => k_in); (case p => kit_tp); (case ee => kit_is); (case nb => kit_nb); k_whole; intro _)))
theorem den_zero {r : UInt64} {S : Int} (hr : Fv r (16 * S)) (h0 : S ≠ 0) (hz : Float64.isZero r = true) : False := by
  rw [fv_isZero hr] at hz
  have := of_decide_eq_true hz
  omega
theorem divw_rule {prog : Program} {w : World} {A : Around} {E : Value → Shared → Prop} {s : Shared} {r : UInt64} {t u : Tok} {S n q : Int} {Q : Value → Shared → Prop} (hA : A.handled = none) (hr : Fv r (16 * S)) (hS : S ≠ 0) (hb : n.natAbs < 2 ^ 47) (hq : 16 * n = q * S) (hqb : q.natAbs < 2 ^ 53)
    (h : ∀ r' t' tk', Fv r' q → Q (.float r' t') { s with toks := tk' }) : wpAny (model prog w) A (binaryOp .Div (.int n u) (.float r t)) Q E s :=
  Flt.truediv_if hA (fun o => absurd o (not_over hb)) (fun _ h0 => (den_zero hr hS h0).elim) fun _ _ => h _ _ _ (fv_div (fv_ofInt (by omega)) hr (by omega) (by rw [hq, Int.mul_left_comm]) hqb)
local macro_rules | `(tactic| walk_at "execs cons Raise nil") => `(tactic| (exact (den_zero (by assumption) (by assumption) (by assumption)).elim))
local macro_rules | `(tactic| walk_at "binaryOp Div int float") => `(tactic| (k_here; k_dflt (refine' divw_rule ?k1 ?k2 ?k3 ?k4 ?k5 ?k6 ?_; (case k1 => rfl); (case k2 => assumption); (case k3 => assumption); (case k4 => assumption); (case k5 => assumption); (case k6 => assumption)); intro r9 t9 tk9 hr9; (try dsimp only); (try k_fold)))

theorem fmeanw_spec {w : World} {mean : ExcName → Option Value} {mg mb : Str → Option Value} {l1 l2 : Addr} {vs us : List Value} {as bs : List Int} {q : Int} (hi1 : IntsAre vs as) (hi2 : IntsAre us bs) (hlen : bs.length = as.length) (h500 : as.length ≤ 500) (ha : ∀ a ∈ as, a.natAbs < 2 ^ 25) (hb : ∀ b ∈ bs, b.natAbs < 2 ^ 25)
    (hbs : ∀ i, (16 * (bs.take i).sum).natAbs < 2 ^ 51) (hb47 : ∀ b ∈ bs, b.natAbs < 2 ^ 47) (h0 : bs.sum ≠ 0) (hd : (dotI as bs).natAbs < 2 ^ 47) (hq : 16 * dotI as bs = q * bs.sum) (hqb : q.natAbs < 2 ^ 53) :
    Tells1 PySem.Challenge.rw_rw0061_01.row.prog w (Mine.hd.heap_39 w.params) topProg (looseW Mine.hd.view_39 [Str.ofString "fmean", Str.ofString "quantiles"] ++ (recsOf Mine.hd.view_39).map (·.name) ++ (litsOf Mine.hd.view_39).map (·.1) ++ (clssOf Mine.hd.view_39 (looseW Mine.hd.view_39 [Str.ofString "fmean", Str.ofString "quantiles"])).map (·.name)) mean mg mb 63 [.ref l1, .ref l2] (fun h => h.IsList l1 vs.toArray ∧ h.IsList l2 us.toArray) 4 40 (fun v nw => nw = [] ∧ ∃ r t, v = .float r t ∧ Fv r q) := by
  k_with_none
  w_top off
  k_fill
  unfold Tells1
  intro dp un gd cn cs a ccd cl outer A₀ base h₀ L m news s Q E B F X N T hk hpre hd' hu hret
  refine wpAny_call ?_
  k_dflt ((refine' code_pureC ?k1 ?k2 ?k3 ?k5 ?kA ?kF ?kK ?k6 ?k7 ?k8 ?k9 ?kB ?kD ?_ ?c2 ?c3 ?c4; (case kA => exact rfl); (case kF => exact rfl); (case kK => assumption); (case k1 => k_asm); (case k2 => k_asm); (case k3 => k_asm); (case k5 => k_asm); (case k6 => k_is); (case k7 => k_is); (case k8 => ktr_room); (case k9 => first | exact BindsTo.of_eq rfl | exact binds_K (by k_in) rfl (by k_is) rfl rfl rfl); (case kB => exact rfl); (case kD => decide +kernel); (case c2 => exact rfl); (case c3 => exact rfl); (case c4 => exact rfl); k_whole; intro g' L' h' tk' cells' hg' F' N' Y' B' X' T'; k_cells Y'; (try simp only [List.cons_append, List.nil_append] at N'); (try dsimp only); (try k_lift B'); (try k_fold)))
  have hl91 := keepList hpre.1 (by assumption)
  have hl92 := keepList hpre.2 (by assumption)
  k_steps
  exact ret_pure (nw := []) hret (by k_asm) F N (by assumption) (by assumption) (PyProof.Rows.News.nil (L := (0 : Nat))) ⟨rfl, _, _, rfl, (by assumption)⟩
end Mine
end

section
open PySem PySem.W PySem.Calls PySem.Spec PyProof.Rows
namespace Mine
local macro_rules | `(tactic| walk_at "MINE enter") => `(tactic| (refine' code_pure ?k1 ?k2 ?k3 ?k4 ?k5 ?kA ?kF ?kK ?k6 ?k7 ?k8 ?k9 ?kB ?_ ?c2 ?c3 ?c4 ?c5; (case kA => exact rfl); (case kF => exact rfl); (case kK => assumption); (case k1 => k_asm); (case k2 => k_asm); (case k3 => k_asm); (case k4 => k_asm); (case k5 => k_asm); (case k6 => k_is); (case k7 => k_is); (case k8 => ktr_room); (case k9 => exact BindsTo.of_eq rfl); (case c5 => decide); (case kB => exact locs rfl); (case c2 => exact rfl); (case c3 => exact rfl); (case c4 => exact rfl); k_whole; intro g' L' h' hg' F' N' B' X' T'; (try dsimp only); (try k_lift B'); (try k_fold)))

theorem srt_eq {a b ns : List Int} (p : a.Perm ns) (s1 : a.Pairwise (· ≤ ·)) (q : b.Perm ns) (s2 : b.Pairwise (· ≤ ·)) : a = b := List.Perm.eq_of_pairwise (fun _ _ _ _ => Int.le_antisymm) s1 s2 (p.trans q.symm)
theorem mfm2 (a : Int) : a.fmod 2 = a % 2 := Int.fmod_eq_emod_of_nonneg _ (by decide)
theorem mfd2 (a : Int) : a.fdiv 2 = a / 2 := Int.fdiv_eq_ediv_of_nonneg _ (by decide)
theorem med_odd {a ss ns : List Int} (p : a.Perm ns) (s1 : a.Pairwise (· ≤ ·)) (q : ss.Perm ns) (s2 : ss.Pairwise (· ≤ ·)) (h : ((a.length : Nat) : Int).fmod 2 = 1) : a.getD (((a.length : Nat) : Int).fdiv 2).toNat 0 = ss.getD ((ns.length - 1) / 2) 0 ∧ a.getD (((a.length : Nat) : Int).fdiv 2).toNat 0 = ss.getD (ns.length / 2) 0 := by
  have e := srt_eq p s1 q s2
  subst e
  have hl := p.length_eq
  rw [mfm2, hl] at h
  rw [mfd2, hl]
  constructor <;> congr 1 <;> omega
theorem med_even {a ss ns : List Int} (p : a.Perm ns) (s1 : a.Pairwise (· ≤ ·)) (q : ss.Perm ns) (s2 : ss.Pairwise (· ≤ ·)) (h : ((a.length : Nat) : Int).fmod 2 ≠ 1) (h0 : 0 < ns.length) : a.getD (((a.length : Nat) : Int).fdiv 2 - 1).toNat 0 = ss.getD ((ns.length - 1) / 2) 0 ∧ a.getD (((a.length : Nat) : Int).fdiv 2).toNat 0 = ss.getD (ns.length / 2) 0 := by
  have e := srt_eq p s1 q s2
  subst e
  have hl := p.length_eq
  rw [mfm2, hl] at h
  rw [mfd2, hl]
  constructor <;> congr 1 <;> omega
theorem med_high {a ss ns : List Int} (p : a.Perm ns) (s1 : a.Pairwise (· ≤ ·)) (q : ss.Perm ns) (s2 : ss.Pairwise (· ≤ ·)) : a.getD (((a.length : Nat) : Int).fdiv 2).toNat 0 = ss.getD (ns.length / 2) 0 := by
  have e := srt_eq p s1 q s2
  subst e
  have hl := p.length_eq
  rw [mfd2, hl]
  congr 1

theorem mlow_spec {w : World} {mean : ExcName → Option Value} {mg mb : Str → Option Value} {l : Addr} {vs : List Value} {ns ss : List Int} (hi : IntsAre vs ns) (h0 : 0 < ns.length) (h64 : ns.length < 64) (hp : ss.Perm ns) (hs : ss.Pairwise (· ≤ ·)) :
    Tells1 PySem.Challenge.rw_rw0061_01.row.prog w (Mine.hd.heap_39 w.params) topProg (looseW Mine.hd.view_39 [Str.ofString "fmean", Str.ofString "quantiles"] ++ (recsOf Mine.hd.view_39).map (·.name) ++ (litsOf Mine.hd.view_39).map (·.1) ++ (clssOf Mine.hd.view_39 (looseW Mine.hd.view_39 [Str.ofString "fmean", Str.ofString "quantiles"])).map (·.name)) mean mg mb 77 [.ref l] (fun h => h.IsList l vs.toArray) 4 40 (fun v nw => nw = [] ∧ ∃ t, v = .int (ss.getD ((ns.length - 1) / 2) 0) t) := by
  k_with_none
  w_top off
  k_fill
  unfold Tells1
  intro dp un gd cn cs a ccd cl outer A₀ base h₀ L m news s Q E B F X N T hk hpre hd hu hret
  refine wpAny_call ?_
  k_dflt (walk_at "MINE enter")
  have hl9 := keepList hpre (by assumption)
  k_steps
  all_goals first
    | (exfalso; omega)
    | exact ret_pure (nw := []) hret (by k_asm) F N (by assumption) (by assumption) (PyProof.Rows.News.nil (L := (0 : Nat))) ⟨rfl, _, congrArg (fun x => Value.int x _) ((med_odd (by assumption) (by assumption) hp hs (by assumption)).1)⟩
    | exact ret_pure (nw := []) hret (by k_asm) F N (by assumption) (by assumption) (PyProof.Rows.News.nil (L := (0 : Nat))) ⟨rfl, _, congrArg (fun x => Value.int x _) ((med_even (by assumption) (by assumption) hp hs (by assumption) h0).1)⟩
theorem mhigh_spec {w : World} {mean : ExcName → Option Value} {mg mb : Str → Option Value} {l : Addr} {vs : List Value} {ns ss : List Int} (hi : IntsAre vs ns) (h0 : 0 < ns.length) (h64 : ns.length < 64) (hp : ss.Perm ns) (hs : ss.Pairwise (· ≤ ·)) :
    Tells1 PySem.Challenge.rw_rw0061_01.row.prog w (Mine.hd.heap_39 w.params) topProg (looseW Mine.hd.view_39 [Str.ofString "fmean", Str.ofString "quantiles"] ++ (recsOf Mine.hd.view_39).map (·.name) ++ (litsOf Mine.hd.view_39).map (·.1) ++ (clssOf Mine.hd.view_39 (looseW Mine.hd.view_39 [Str.ofString "fmean", Str.ofString "quantiles"])).map (·.name)) mean mg mb 84 [.ref l] (fun h => h.IsList l vs.toArray) 4 40 (fun v nw => nw = [] ∧ ∃ t, v = .int (ss.getD (ns.length / 2) 0) t) := by
  k_with_none
  w_top off
  k_fill
  unfold Tells1
  intro dp un gd cn cs a ccd cl outer A₀ base h₀ L m news s Q E B F X N T hk hpre hd hu hret
  refine wpAny_call ?_
  k_dflt (walk_at "MINE enter")
  have hl9 := keepList hpre (by assumption)
  k_steps
  all_goals first
    | (exfalso; omega)
    | exact ret_pure (nw := []) hret (by k_asm) F N (by assumption) (by assumption) (PyProof.Rows.News.nil (L := (0 : Nat))) ⟨rfl, _, congrArg (fun x => Value.int x _) (med_high (by assumption) (by assumption) hp hs)⟩
end Mine
end

section
open PySem PySem.W PySem.Calls PySem.Spec PyProof.Rows
namespace Mine

open Float64 in
theorem fv_quot {a b q : Int} (hb : 0 < b) (hq : 16 * a = q * b) (hqb : q.natAbs < 2 ^ 53) : Fv (ofFrac (decide (a < 0) != decide (b < 0)) a.natAbs b.natAbs) q := by
  have habs : a.natAbs * 16 = q.natAbs * b.natAbs := by
    have := congrArg Int.natAbs hq
    rw [Int.natAbs_mul, Int.natAbs_mul] at this
    rw [← this]; exact Nat.mul_comm _ _
  have h := fv_ofFrac (neg := (decide (a < 0) != decide (b < 0))) (n := a.natAbs) (d := b.natAbs) (q := q.natAbs) (by omega) habs hqb
  have e : sgn (decide (a < 0) != decide (b < 0)) q.natAbs = q := by
    have hb' : decide (b < 0) = false := decide_eq_false (by omega)
    rw [hb']
    unfold sgn
    rcases Int.lt_trichotomy a 0 with h1 | h1 | h1
    · have hqn : q < 0 := by
        rcases Int.lt_or_le q 0 with h2 | h2
        · exact h2
        · have := Int.mul_nonneg h2 (Int.le_of_lt hb); omega
      simp [h1]; omega
    · subst h1
      have : q = 0 := by
        rcases Int.mul_eq_zero.mp hq.symm with h2 | h2 <;> omega
      subst this; simp
    · have hqn : 0 < q := by
        rcases Int.lt_or_le 0 q with h2 | h2
        · exact h2
        · have := Int.mul_nonpos_of_nonpos_of_nonneg h2 (Int.le_of_lt hb); omega
      have : ¬ a < 0 := by omega
      simp [this]; omega
  rw [e] at h
  exact h
theorem divi_rule {prog : Program} {w : World} {A : Around} {E : Value → Shared → Prop} {s : Shared} {t u : Tok} {a b q : Int} {Q : Value → Shared → Prop} (hA : A.handled = none) (hb : 0 < b) (ha : a.natAbs < 2 ^ 60) (hq : 16 * a = q * b) (hqb : q.natAbs < 2 ^ 53)
    (h : ∀ r' t' tk', Fv r' q → Q (.float r' t') { s with toks := tk' }) : wpAny (model prog w) A (binaryOp .Div (.int a t) (.int b u)) Q E s :=
  Flt.div_ii_fits hA (Nat.lt_of_lt_of_le ha (Nat.pow_le_pow_right (by decide) (by decide))) (fun h0 => absurd h0 (by omega)) fun _ _ => h _ _ _ (fv_quot hb hq hqb)
theorem getD_bound {l : List Int} {B : Nat} (h : ∀ n ∈ l, n.natAbs < B) (hB : 0 < B) (k : Nat) : (l.getD k 0).natAbs < B := by
  rw [List.getD_eq_getElem?_getD]
  cases e : l[k]? with
  | none => simpa using hB
  | some v => exact h v (List.mem_of_getElem? e)
theorem perm_bound {a ns : List Int} {B : Nat} (p : a.Perm ns) (h : ∀ n ∈ ns, n.natAbs < B) : ∀ n ∈ a, n.natAbs < B := fun n hn => h n (p.mem_iff.mp hn)
theorem half_rule {prog : Program} {w : World} {A : Around} {E : Value → Shared → Prop} {s : Shared} {t u : Tok} {a : Int} {Q : Value → Shared → Prop} (hA : A.handled = none) (ha : a.natAbs < 2 ^ 40)
    (h : ∀ r' t' tk', Fv r' (8 * a) → Q (.float r' t') { s with toks := tk' }) : wpAny (model prog w) A (binaryOp .Div (.int a t) (.int 2 u)) Q E s :=
  divi_rule hA (by decide) (by omega) (by omega) (by omega) h
theorem med_sum {a ns : List Int} (p : a.Perm ns) (h : ∀ n ∈ ns, n.natAbs < 2 ^ 20) (i j : Nat) : (a.getD i 0 + a.getD j 0).natAbs < 2 ^ 40 := by
  have hb := perm_bound p h
  have h1 := getD_bound hb (by decide) i
  have h2 := getD_bound hb (by decide) j
  omega
local macro_rules | `(tactic| walk_at "binaryOp Div int int") => `(tactic| (k_here; k_dflt (refine' half_rule ?k1 ?k2 ?_; (case k1 => rfl); (case k2 => exact med_sum (by assumption) (by assumption) _ _)); intro r9 t9 tk9 hr9; (try dsimp only); (try k_fold)))
theorem med_oddlen {a ns : List Int} (p : a.Perm ns) (h : ((a.length : Nat) : Int).fmod 2 = 1) : ns.length % 2 = 1 := by
  have hl := p.length_eq
  rw [mfm2] at h
  omega
theorem med_evenlen {a ns : List Int} (p : a.Perm ns) (h : ((a.length : Nat) : Int).fmod 2 ≠ 1) : ns.length % 2 ≠ 1 := by
  have hl := p.length_eq
  rw [mfm2] at h
  omega

theorem median_spec {w : World} {mean : ExcName → Option Value} {mg mb : Str → Option Value} {l : Addr} {vs : List Value} {ns ss : List Int} (hi : IntsAre vs ns) (h0 : 0 < ns.length) (h64 : ns.length < 64) (hp : ss.Perm ns) (hs : ss.Pairwise (· ≤ ·)) (hbd : ∀ n ∈ ns, n.natAbs < 2 ^ 20) :
    Tells1 PySem.Challenge.rw_rw0061_01.row.prog w (Mine.hd.heap_39 w.params) topProg (looseW Mine.hd.view_39 [Str.ofString "fmean", Str.ofString "quantiles"] ++ (recsOf Mine.hd.view_39).map (·.name) ++ (litsOf Mine.hd.view_39).map (·.1) ++ (clssOf Mine.hd.view_39 (looseW Mine.hd.view_39 [Str.ofString "fmean", Str.ofString "quantiles"])).map (·.name)) mean mg mb 70 [.ref l] (fun h => h.IsList l vs.toArray) 4 40
      (fun v nw => nw = [] ∧ ((ns.length % 2 = 1 ∧ ∃ t, v = .int (ss.getD (ns.length / 2) 0) t) ∨ (ns.length % 2 ≠ 1 ∧ ∃ r t, v = .float r t ∧ Fv r (8 * (ss.getD ((ns.length - 1) / 2) 0 + ss.getD (ns.length / 2) 0))))) := by
  k_with_none
  w_top off
  k_fill
  unfold Tells1
  intro dp un gd cn cs a ccd cl outer A₀ base h₀ L m news s Q E B F X N T hk hpre hd hu hret
  refine wpAny_call ?_
  k_dflt ((refine' code_pure ?k1 ?k2 ?k3 ?k4 ?k5 ?kA ?kF ?kK ?k6 ?k7 ?k8 ?k9 ?kB ?_ ?c2 ?c3 ?c4 ?c5; (case kA => exact rfl); (case kF => exact rfl); (case kK => assumption); (case k1 => k_asm); (case k2 => k_asm); (case k3 => k_asm); (case k4 => k_asm); (case k5 => k_asm); (case k6 => k_is); (case k7 => k_is); (case k8 => ktr_room); (case k9 => exact BindsTo.of_eq rfl); (case c5 => decide); (case kB => exact locs rfl); (case c2 => exact rfl); (case c3 => exact rfl); (case c4 => exact rfl); k_whole; intro g' L' h' hg' F' N' B' X' T'; (try dsimp only); (try k_lift B'); (try k_fold)))
  have hl9 := keepList hpre (by assumption)
  k_steps
  all_goals first
    | (exfalso; omega)
    | exact ret_pure (nw := []) hret (by k_asm) F N (by assumption) (by assumption) (PyProof.Rows.News.nil (L := (0 : Nat))) ⟨rfl, .inl ⟨med_oddlen (by assumption) (by assumption), _, congrArg (fun x => Value.int x _) (med_high (by assumption) (by assumption) hp hs)⟩⟩
    | exact ret_pure (nw := []) hret (by k_asm) F N (by assumption) (by assumption) (PyProof.Rows.News.nil (L := (0 : Nat))) ⟨rfl, .inr ⟨med_evenlen (by assumption) (by assumption), _, _, rfl, by
        have e := med_even (by assumption) (by assumption) hp hs (by assumption) h0
        rw [← e.1, ← e.2]; assumption⟩⟩
end Mine
end

section
open PySem PySem.W PySem.Calls PySem.Spec PyProof.Rows
namespace Mine

/-- as Tells1, with keyword arguments -/
def TellsK (prog : Program) (w : World) (K : Frag) (p : Program) (loose : List Str) (mean : ExcName → Option Value) (mg mb : Str → Option Value) (f : Addr) (args : List Value) (kw : List (Str × Value)) (pre : Heap → Prop) (D U : Nat) (post : Value → List (Addr × Obj) → Prop) : Prop :=
  ∀ (dp un : Nat) (gd : Option (List Code)) (cn : Str) (cs : Scope) (a : Addr) (ccd : Value) (cl : List (Str × Addr)) (outer : List Env) (A₀ : Around) (base h₀ : Heap) (L : Addr) (m : Str → Option Value) (news : List (Addr × Obj)) (s : Shared) (Q E : Value → Shared → Prop),
    Below A₀ base outer h₀ → Fr h₀ L s.heap m → K.In h₀ → News h₀ L s.heap news → Top p loose mean mg mb h₀ → cs.kind = .function → pre s.heap → dp + D < recursionLimit → un + U < cLine →
    (∀ v nw h' tk', Fr h₀ L h' m → News h₀ L h' (nw ++ news) → (∀ b o, s.heap.get? b = some o → h'.get? b = some o) → (∀ q ∈ nw, AllNe news q.1) → post v nw → Q v { s with heap := h', toks := tk' }) →
    wpAny (model prog w) (ktrTop dp un gd cn cs L a ccd cl outer) (call (.ref f) args kw) Q E s

/-- ints and doubles; the list says twice their worth -/
inductive HalvesAre : List Value → List Int → Prop
  | nil : HalvesAre [] []
  | int (n : Int) (t : Tok) {vs ks} : HalvesAre vs ks → HalvesAre (.int n t :: vs) (2 * n :: ks)
  | flt (r : UInt64) (t : Tok) {k : Int} {vs ks} : Fv r (8 * k) → HalvesAre vs ks → HalvesAre (.float r t :: vs) (k :: ks)
def cutJ (ld i : Int) : Int := if i / 2 < 1 then 1 else if i / 2 > ld - 1 then ld - 1 else i / 2
def cut2 (ss : List Int) (i : Int) : Int := ss.getD (cutJ ss.length i - 1).toNat 0 * (2 - (i - 2 * cutJ ss.length i)) + ss.getD (cutJ ss.length i).toNat 0 * (i - 2 * cutJ ss.length i)
def cutsOf (ss : List Int) : List Int := if ss.length < 2 then List.replicate 3 (2 * ss.getD 0 0) else (rangeKs 1 (2 * ss.length + 1)).map (cut2 ss)
structure MarkQ : Prop where mk ::
local macro_rules | `(tactic| walk_at "exec For Name Call cons nil") => `(tactic| ((with_reducible rename MarkQ => mq9); k_here; (rename Fr _ _ _ _ => lF'); (with_unfolding_all refine' For_invVF lF' ?k1 ?k2 ?_; (case k1 => exact rfl); (case k2 => exact rfl); k_whole)))

def MineStop (P : Prop) : Prop := P
theorem stop_out {P : Prop} (h : MineStop P) : P := h
local macro_rules | `(tactic| walk_at "pyIter ref") => `(tactic| ((with_reducible rename MarkQ => mq9); refine stop_out ?_; clear mq9))

theorem stop_in {P : Prop} (h : P) : MineStop P := h
theorem mulok_small {a b : Int} (ha : a.natAbs < 2 ^ 64) : IntMulOk a b := IntMulOk.of_left (by
  unfold Builtin.Int.intBits
  split
  · decide
  · rename_i h
    have h0 : a.natAbs ≠ 0 := by simpa using h
    have := (Nat.log2_lt h0).mpr ha
    omega)
section
variable {prog : Program} {w : World} {A : Around} {E : Value → Shared → Prop} {s : Shared} {env : Env} {h₀ : Heap} {x : Str} {body : List Stmt} {Q : Flow → Shared → Prop}
theorem halves_snoc {us : List Value} {ks : List Int} (h : HalvesAre us ks) {r : UInt64} {t : Tok} {k : Int} (hr : Fv r (8 * k)) : HalvesAre (us ++ [.float r t]) (ks ++ [k]) := by
  induction h with
  | nil => exact .flt r t hr .nil
  | int n t' _ ih => exact .int n t' ih
  | flt r' t' h' _ ih => exact .flt r' t' h' ih
theorem halves_map {us : List Value} {pre : List Int} {f : Int → Int} (h : HalvesAre us (pre.map f)) {r : UInt64} {t : Tok} {k : Int} (hr : Fv r (8 * f k)) : HalvesAre (us ++ [.float r t]) ((pre ++ [k]).map f) := by
  rw [List.map_append]; exact halves_snoc h hr
theorem HalvesAre.length {us : List Value} {ks : List Int} (h : HalvesAre us ks) : us.length = ks.length := by
  induction h with
  | nil => rfl
  | int n t' _ ih => simp [ih]
  | flt r' t' h' _ ih => simp [ih]
theorem quant_one {v : List Value} {a ns ss : List Int} {nn : Int} (hi : IntsAre v a) (pa : a.Perm ns) (sa : a.Pairwise (· ≤ ·)) (hp : ss.Perm ns) (hs : ss.Pairwise (· ≤ ·)) (h1 : ((a.length : Nat) : Int) = 1) (hnn : nn = 2 * ns.length + 2) : HalvesAre (List.replicate (nn - 1).toNat v).flatten (cutsOf ss) := by
  have e := srt_eq hp hs pa sa
  subst e
  have hl := pa.length_eq
  rw [show (nn - 1).toNat = 3 by omega]
  cases hi with
  | nil => simp at h1
  | cons x t hr =>
    cases hr with
    | nil =>
      show HalvesAre [.int x t, .int x t, .int x t] [2 * x, 2 * x, 2 * x]
      exact .int _ _ (.int _ _ (.int _ _ .nil))
    | cons y u hr => simp at h1; omega
theorem flt_range {r R : Addr} {nn : Int} {t₀ u₀ v₀ : Tok} {n c₀ : Nat} {rest : List (Addr × Obj)} {m₀ : Str → Option Value} (f : Int → Int) (stored : List Str)
    (hh : A.handled = none) (hr : IsRange s.heap r 1 nn 1 t₀ u₀ v₀) (hsmall : Builtin.Range.small 1 nn 1 = true) (hn : Builtin.Range.rangeSize 1 nn 1 = (n : Int)) (F : Fr h₀ env.locals s.heap m₀) (N : News h₀ env.locals s.heap ((R, listOf #[] c₀) :: rest))
    (turn : ∀ (us : List Value) (c : Nat) (k : Int) t (u : Str → Option Value) h tk own (pre : List Int), k = 1 + (pre.length : Int) → pre.length < n → OwnOff own (R :: rest.map (·.1)) → HalvesAre us (pre.map f) → us.length = pre.length →
      Fr h₀ env.locals h (fun y => if y = x then some (.int k t) else if stored.contains y then u y else m₀ y) → News h₀ env.locals h (((R, listOf us.toArray c) :: rest) ++ own) →
      wpAny (model prog w) A (execs body env) (InvPostN h₀ env.locals (KstS (fun c : List Value × Nat => (R, listOf c.1.toArray c.2) :: rest) (fun _ => []) (fun _ => True) x stored m₀ (fun pre c => HalvesAre c.1 (pre.map f)) (pre ++ [k])) own (R :: rest.map (·.1)) { s with heap := h, toks := tk } Q) E { s with heap := h, toks := tk })
    (done : ∀ (us : List Value) (c : Nat) (u : Str → Option Value) h tk, HalvesAre us ((rangeKs 1 n).map f) → Fr h₀ env.locals h (fun y => if y = x then u y else if stored.contains y then u y else m₀ y) → News h₀ env.locals h ((R, listOf us.toArray c) :: rest) → Q .next { s with heap := h, toks := tk }) :
    wpAny (model prog w) A (pyIter (.ref r)) (fun it s₂ => LoopAtV prog w A h₀ env x body Q E it s₂) E s :=
  kst_range (σ := List Value × Nat) (fun c : List Value × Nat => (R, listOf c.1.toArray c.2) :: rest) (fun _ => []) (fun _ => True) stored (fun pre c => HalvesAre c.1 (pre.map f)) ([], c₀) hh hr hsmall hn F N trivial (fun _ hp => nomatch hp) .nil
    (fun c pre k t u h tk own e hl ho _ hv F' N' => turn c.1 c.2 k t u h tk own pre e hl ho hv (hv.length.trans (List.length_map _)) F' N')
    (fun c u h tk _ hv F' N' => done c.1 c.2 u h tk hv F' N')
end

theorem fdq {k nn : Int} {n : Nat} (hnn : nn = 2 * n + 2) (hk : 0 ≤ k) : (k * ((n : Int) + 1)).fdiv nn = k / 2 := by
  have h0 : (0 : Int) ≤ nn := by omega
  rw [Int.fdiv_eq_ediv_of_nonneg _ h0, show nn = ((n : Int) + 1) * 2 by omega, Int.mul_comm k]
  exact Int.mul_ediv_mul_of_pos _ _ (by omega)
theorem cutJ1 {k nn : Int} {n : Nat} (hnn : nn = 2 * n + 2) (hk : 0 ≤ k) (h : (k * ((n : Int) + 1)).fdiv nn < 1) : 1 = cutJ n k := by
  rw [fdq hnn hk] at h; unfold cutJ; rw [if_pos h]
theorem cutJ2 {k nn : Int} {n : Nat} (hnn : nn = 2 * n + 2) (hk : 0 ≤ k) (h : ¬ (k * ((n : Int) + 1)).fdiv nn < 1) (h2 : (n : Int) - 1 < (k * ((n : Int) + 1)).fdiv nn) : (n : Int) - 1 = cutJ n k := by
  rw [fdq hnn hk] at h h2; unfold cutJ; rw [if_neg h, if_pos h2]
theorem cutJ3 {k nn : Int} {n : Nat} (hnn : nn = 2 * n + 2) (hk : 0 ≤ k) (h : ¬ (k * ((n : Int) + 1)).fdiv nn < 1) (h2 : ¬ (n : Int) - 1 < (k * ((n : Int) + 1)).fdiv nn) : (k * ((n : Int) + 1)).fdiv nn = cutJ n k := by
  rw [fdq hnn hk] at h h2 ⊢; unfold cutJ; rw [if_neg h, if_neg h2]
theorem cut_e {n : Nat} {k : Int} (h2 : 2 ≤ n) (hk : 1 ≤ k) (hk2 : k ≤ 2 * n + 1) : -1 ≤ k - 2 * cutJ n k ∧ k - 2 * cutJ n k ≤ 3 := by
  unfold cutJ
  split
  · omega
  · split <;> omega
theorem quant_alg (x y M e nn d : Int) (h1 : nn = 2 * M) (h2 : d = M * e) : x * (nn - d) + y * d = M * (x * (2 - e) + y * e) := by subst h1 h2; grind
theorem quant_d (k J M nn : Int) (h : nn = 2 * M) : k * M - J * nn = M * (k - 2 * J) := by subst h; grind
theorem small_mul {x e : Int} (hx : x.natAbs < 2 ^ 20) (he : -3 ≤ e ∧ e ≤ 3) : (x * e).natAbs < 2 ^ 22 := by
  rw [Int.natAbs_mul]
  have : e.natAbs ≤ 3 := by omega
  exact Nat.lt_of_le_of_lt (Nat.mul_le_mul_left _ this) (by omega)
theorem quant_div {prog : Program} {w : World} {A : Around} {E : Value → Shared → Prop} {s : Shared} {t u : Tok} {ss : List Int} {nn k J : Int} {Q : Value → Shared → Prop} (hA : A.handled = none) (hnn : nn = 2 * ss.length + 2) (hlen : 2 ≤ ss.length) (h64 : ss.length < 64) (hk : 1 ≤ k) (hk2 : k ≤ 2 * ss.length + 1)
    (hbd : ∀ i, (ss.getD i 0).natAbs < 2 ^ 20) (hJ : J = cutJ ss.length k) (h : ∀ r' t' tk', Fv r' (8 * cut2 ss k) → Q (.float r' t') { s with toks := tk' }) :
    wpAny (model prog w) A (binaryOp .Div (.int (ss.getD (J - 1).toNat 0 * (nn - (k * ((ss.length : Int) + 1) - J * nn)) + ss.getD J.toNat 0 * (k * ((ss.length : Int) + 1) - J * nn)) t) (.int nn u)) Q E s := by
  have hM : nn = 2 * ((ss.length : Int) + 1) := by omega
  have he := cut_e hlen hk hk2
  have hd := quant_d k J ((ss.length : Int) + 1) nn hM
  have ha := quant_alg (ss.getD (J - 1).toNat 0) (ss.getD J.toNat 0) ((ss.length : Int) + 1) (k - 2 * J) nn (k * ((ss.length : Int) + 1) - J * nn) hM hd
  have hc : ss.getD (J - 1).toNat 0 * (2 - (k - 2 * J)) + ss.getD J.toNat 0 * (k - 2 * J) = cut2 ss k := by unfold cut2; rw [hJ]
  rw [ha, hc]
  have hcb : (cut2 ss k).natAbs < 2 ^ 23 := by
    rw [← hc]
    have a1 := small_mul (hbd (J - 1).toNat) (e := 2 - (k - 2 * J)) (by rw [hJ]; omega)
    have a2 := small_mul (hbd J.toNat) (e := k - 2 * J) (by rw [hJ]; omega)
    omega
  refine divi_rule hA (by omega) ?_ ?_ (by omega) h
  · rw [Int.natAbs_mul]
    have : ((ss.length : Int) + 1).natAbs ≤ 64 := by omega
    exact Nat.lt_of_le_of_lt (Nat.mul_le_mul this (Nat.le_of_lt hcb)) (by decide)
  · rw [hM]
    generalize (ss.length : Int) + 1 = M
    generalize cut2 ss k = c
    grind
theorem getD64 {ss ns : List Int} (hp : ss.Perm ns) (h : ∀ n ∈ ns, n.natAbs < 2 ^ 20) (k : Nat) : (ss.getD k 0).natAbs < 2 ^ 64 := Nat.lt_trans (getD_bound (perm_bound hp h) (by decide) k) (by decide)
local macro_rules | `(tactic| walk_at "binaryOp Mult int int") => `(tactic| (k_here; k_dflt (refine' PyProof.Rows.mul_int ?_ (mulok_small (getD64 (by assumption) (by assumption) _)); k_whole)))

local macro_rules | `(tactic| walk_at "binaryOp Div int int") => `(tactic| (k_here; k_dflt (refine' quant_div ?k1 ?k2 ?k3 ?k4 ?k5 ?k6 ?k7 ?k8 ?_; (case k1 => rfl); (case k2 => assumption); (case k3 => assumption); (case k4 => assumption); (case k5 => assumption); (case k6 => assumption); (case k7 => assumption); (case k8 => first | exact cutJ1 (by assumption) (by assumption) (by assumption) | exact cutJ2 (by assumption) (by assumption) (by assumption) (by assumption) | exact cutJ3 (by assumption) (by assumption) (by assumption) (by assumption))); intro r9 t9 tk9 hr9; (try dsimp only); (try k_fold)))

theorem quant_spec {w : World} {mean : ExcName → Option Value} {mg mb : Str → Option Value} {l : Addr} {vs : List Value} {ns ss : List Int} {nn : Int} {tn : Tok} (hi : IntsAre vs ns) (h0 : 0 < ns.length) (h64 : ns.length < 64) (hp : ss.Perm ns) (hs : ss.Pairwise (· ≤ ·)) (hbd : ∀ n ∈ ns, n.natAbs < 2 ^ 20) (hnn : nn = 2 * ns.length + 2) :
    TellsK PySem.Challenge.rw_rw0061_01.row.prog w (Mine.hd.heap_39 w.params) topProg (looseW Mine.hd.view_39 [Str.ofString "fmean", Str.ofString "quantiles"] ++ (recsOf Mine.hd.view_39).map (·.name) ++ (litsOf Mine.hd.view_39).map (·.1) ++ (clssOf Mine.hd.view_39 (looseW Mine.hd.view_39 [Str.ofString "fmean", Str.ofString "quantiles"])).map (·.name)) mean mg mb 92 [.ref l] [(Str.ofString "n", .int nn tn)] (fun h => h.IsList l vs.toArray) 4 40
      (fun v nw => ∃ a us n, v = .ref a ∧ nw = [(a, listOf us.toArray n)] ∧ HalvesAre us (cutsOf ss)) := by
  k_with_none
  w_top off
  k_fill
  unfold TellsK
  intro dp un gd cn cs a ccd cl outer A₀ base h₀ L m news s Q E B F X N T hk hpre hd hu hret
  refine wpAny_call ?_
  k_dflt ((refine' code_pure ?k1 ?k2 ?k3 ?k4 ?k5 ?kA ?kF ?kK ?k6 ?k7 ?k8 ?k9 ?kB ?_ ?c2 ?c3 ?c4 ?c5; (case kA => exact rfl); (case kF => exact rfl); (case kK => assumption); (case k1 => k_asm); (case k2 => k_asm); (case k3 => k_asm); (case k4 => k_asm); (case k5 => k_asm); (case k6 => k_is); (case k7 => k_is); (case k8 => ktr_room); (case k9 => (refine' kp_binds ?kx ?ke; (case kx => k_in); (case ke => exact fun _ => rfl))); (case c5 => decide); (case kB => exact locs rfl); (case c2 => exact rfl); (case c3 => exact rfl); (case c4 => exact rfl); k_whole; intro g' L' h' hg' F' N' B' X' T'; (try dsimp only); (try k_lift B'); (try k_fold)))
  have hl9 := keepList hpre (by assumption)
  have mq : MarkQ := ⟨⟩
  k_steps
  · exfalso; omega
  · refine ret_pure (nw := [_]) hret (by k_asm) F N (by assumption) (by assumption) (news_sub (by k_asm) (by intro p hp; rw [List.mem_singleton.mp hp]; k_mem)) ⟨_, _, _, rfl, rfl, ?_⟩
    exact quant_one (by assumption) (by assumption) (by assumption) hp hs (by assumption) hnn
  · exfalso; omega
  refine stop_in ?_
  (rename List.Perm _ _ => hq9); (rename List.Pairwise _ _ => hs9)
  have e9 := srt_eq hp hs hq9 hs9
  subst e9
  have hlen9 := hp.length_eq
  refine flt_range (n := 2 * ss.length + 1) (cut2 ss) [Str.ofString "j", Str.ofString "delta", Str.ofString "interpolated"] rfl (by assumption) ?_ ?_ (by assumption) (by assumption) ?_ ?_
  · exact small_one (by decide) (by decide) (by omega) (by omega)
  · rw [PyProof.Rows.rangeSize_nat]; omega
  · intro us c k t u h tk own pre hk hlt hoff hv hul F9 N9
    have q1 : nn = 2 * ss.length + 2 := by omega
    have q2 : 2 ≤ ss.length := by omega
    have q3 : ss.length < 64 := by omega
    have q4 : 1 ≤ k := by omega
    have q5 : k ≤ 2 * ss.length + 1 := by omega
    have q6 : ∀ i, (ss.getD i 0).natAbs < 2 ^ 20 := getD_bound (perm_bound hp hbd) (by decide)
    have q7 : 0 ≤ k := by omega
    k_with "state" => exact halves_map (by assumption) (by assumption)
    k_steps
  · intro us c u h tk hv F9 N9
    k_steps
    refine ret_pure (nw := [_]) hret (by k_asm) F N (by assumption) (by assumption) (news_sub (by k_asm) (by intro p hp; rw [List.mem_singleton.mp hp]; k_mem)) ⟨_, _, _, rfl, rfl, ?_⟩
    have e : cutsOf ss = (rangeKs 1 (2 * ss.length + 1)).map (cut2 ss) := by unfold cutsOf; rw [if_neg (by omega)]
    rw [e]; exact hv
end Mine
end

section
open PySem PySem.W PySem.Calls PySem.Spec PyProof.Rows PySem.MeetsSeq PySem.SeqAt
namespace Mine
theorem eqGives_fi {r : UInt64} {k n : Int} {t u : Tok} (h : Fv r k) (hk : k = 16 * n) : EqGives (.float r t) (.int n u) true := fun prog w A E s Q hq => by
  unfold eqBool
  refine wpAny_holding ?_
  rw [if_neg (by intro e; have := eq_of_beq e; cases this)]
  refine wpAny_bind (PyProof.Rows.eq_fi (wpAny_truthy_bool ?_))
  rw [fv_cmpInt h, hk]
  simpa using hq
theorem eqGives_ii {a b : Int} {t u : Tok} (h : a = b) : EqGives (.int a t) (.int b u) true := by
  have := EqGives.int a b t u
  rwa [show (a == b) = true by simp [h]] at this
theorem eqGives_ss {a b : Str} {t u : Tok} (h : a = b) : EqGives (.str a t) (.str b u) true := by
  have := PyProof.Rows.eqGives_str a b t u
  rwa [show (a == b) = true by simp [h]] at this
inductive PairEq : List Value → List Value → Prop
  | nil : PairEq [] []
  | cons {x y : Value} {xs ys : List Value} : EqGives x y true → PairEq xs ys → PairEq (x :: xs) (y :: ys)
theorem PairEq.at : ∀ {xs ys : List Value}, PairEq xs ys → xs.length = ys.length ∧ ∀ j (h1 : j < xs.length) (h2 : j < ys.length), EqGives xs[j] ys[j] true
  | _, _, .nil => ⟨rfl, fun j h => absurd h (Nat.not_lt_zero _)⟩
  | _, _, .cons h r => by
    refine ⟨by simp [r.at.1], fun j h1 h2 => ?_⟩
    cases j with
    | zero => exact h
    | succ j => exact r.at.2 j (by simpa using h1) (by simpa using h2)
section
variable {prog : Program} {w : World} {A : Around} {E : Value → Shared → Prop} {s : Shared} {a b : Addr} {xs ys : List Value} {Q : Value → Shared → Prop}
theorem all_true (n : Nat) : (List.range n).all (fun _ => true) = true := by simp
theorem ne_lists (ha : s.heap.IsList a xs.toArray) (hb : s.heap.IsList b ys.toArray) (h : PairEq xs ys) (hu : A.units < cLine) (hQ : Q (.bool false) s) : wpAny (model prog w) A (compareOp .NotEq (.ref a) (.ref b)) Q E s := by
  refine cmp_ofNotEq (RcNeAt.lists (e := fun _ => true) ha hb (by simpa using h.at.1) hu (fun j h1 h2 => ?_) prog w E Q ?_)
  · have := h.at.2 j (by simpa using h1) (by simpa using h2)
    simpa using this.at _ _
  · rw [all_true]; exact hQ
theorem eq_lists (ha : s.heap.IsList a xs.toArray) (hb : s.heap.IsList b ys.toArray) (h : PairEq xs ys) (hu : A.units < cLine) (hQ : Q (.bool true) s) : wpAny (model prog w) A (compareOp .Eq (.ref a) (.ref b)) Q E s := by
  refine cmp_ofEq (RcAt.lists (e := fun _ => true) ha hb (by simpa using h.at.1) hu (fun j h1 h2 => ?_) prog w E Q ?_)
  · have := h.at.2 j (by simpa using h1) (by simpa using h2)
    simpa using this.at _ _
  · rw [all_true]; exact hQ

end

/-- doubles or ints of a told worth (in sixteenths) -/
inductive NumsAre : List Value → List Int → Prop
  | nil : NumsAre [] []
  | int (n : Int) (t : Tok) {vs ks} : NumsAre vs ks → NumsAre (.int n t :: vs) (n :: ks)
  | flt (r : UInt64) (t : Tok) {k : Int} {vs ks} : Fv r (16 * k) → NumsAre vs ks → NumsAre (.float r t :: vs) (k :: ks)
theorem NumsAre.pair : ∀ {xs ys : List Value} {ks : List Int}, NumsAre xs ks → IntsAre ys ks → PairEq xs ys
  | _, _, _, .nil, .nil => .nil
  | _, _, _, .int n t h, .cons _ u r => .cons (eqGives_ii rfl) (h.pair r)
  | _, _, _, .flt r t hr h, .cons _ u r' => .cons (eqGives_fi hr rfl) (h.pair r')

section
variable {prog : Program} {w : World} {A : Around} {E : Value → Shared → Prop} {s : Shared} {h₀ : Heap} {L : Addr} {m : Str → Option Value} {env : Env}
/-- what an element's reading leaves: the comprehension's own objects and the old ledger as they were -/
def ElEnd (h₀ : Heap) (L : Addr) (m : Str → Option Value) (s₁ : Shared) (all : List (Addr × Obj)) (R : Value → Prop) (y : Value) (s₂ : Shared) : Prop :=
  ∃ h' tk, s₂ = { s₁ with heap := h', toks := tk } ∧ Fr h₀ L h' m ∧ News h₀ L h' all ∧ R y
theorem elEnd_of {h₀ : Heap} {L : Addr} {m : Str → Option Value} {s₁ : Shared} {all all' : List (Addr × Obj)} {R : Value → Prop} {y : Value} {h' : Heap} {tk : Nat} (F : Fr h₀ L h' m) (N : News h₀ L h' all') (hs : ∀ p ∈ all, p ∈ all') (r : R y) : ElEnd h₀ L m s₁ all R y { s₁ with heap := h', toks := tk } := ⟨h', tk, rfl, F, news_sub N hs, r⟩

theorem each_rest {elt : Expr} {x : Str} {scope : Scope} {cl : List (Str × Addr)} {S : List (Addr × Obj) → Prop} {P : Nat → Value → Prop} {Fin : List Value → List (Addr × Obj) → Prop} {news : List (Addr × Obj)} {n : Nat} (Rel : Nat → Value → Prop) (hS : S news)
    (turn : ∀ i v I oI C oC D m₂ ys h tk (E' : Value → Shared → Prop), i < n → P i v → LCg.NsObj oC m₂ → m₂ x = some v → Fr h₀ L h m → News h₀ L h ((I, oI) :: (C, oC) :: (D, LCg.lst ys) :: news) →
      wpAny (model prog w) A (eval elt (compEnvC scope cl C env)) (ElEnd h₀ L m { s with heap := h, toks := tk } ((I, oI) :: (C, oC) :: (D, LCg.lst ys) :: news) (Rel i)) E' { s with heap := h, toks := tk })
    (fin : ∀ ys : List Value, ys.length = n → (∀ (i : Nat) (y : Value), ys[i]? = some y → Rel i y) → Fin ys news) : LCg.CompRest prog w A h₀ L m env elt x scope cl s S P Fin n 0 [] news := by
  have key : ∀ (j i : Nat) (ys : List Value), i + j = n → ys.length = i → (∀ k y, ys[k]? = some y → Rel k y) → LCg.CompRest prog w A h₀ L m env elt x scope cl s S P Fin j i ys news := by
    intro j
    induction j with
    | zero => intro i ys hi hl hr; exact LCg.CompRest.zero (fin ys (by omega) hr)
    | succ j ih =>
      intro i ys hi hl hr
      refine LCg.CompRest.succ ?_
      intro v I oI C oC D m₂ h tk E' hv hC hx F N off ne
      refine wpAny_mono (turn i v I oI C oC D m₂ ys h tk E' (by omega) hv hC hx F N) (fun y s₂ hq => ?_) fun _ _ e => e
      obtain ⟨h', tk', e, F', N', hy⟩ := hq
      refine ⟨h', tk', news, e, F', N', off, hS, ih (i + 1) _ (by omega) (by simp [hl]) fun k z hz => ?_⟩
      rcases Nat.lt_or_ge k ys.length with hk | hk
      · rw [List.getElem?_append_left hk] at hz; exact hr k z hz
      · rw [List.getElem?_append_right hk] at hz
        have h0 : k - ys.length = 0 := by
          rcases Nat.eq_zero_or_pos (k - ys.length) with h | h
          · exact h
          · rw [List.getElem?_eq_none (by simp; omega)] at hz; cases hz
        rw [h0] at hz
        have e1 : y = z := by simpa using hz
        have e2 : k = i := by omega
        rw [e2, ← e1]; exact hy
  exact key n 0 [] (by omega) rfl fun k y h => by simp at h
/-- what a test's reading leaves -/
def TstEnd (h₀ : Heap) (L : Addr) (m : Str → Option Value) (s₁ : Shared) (all : List (Addr × Obj)) (b : Bool) (ok : Bool) (s₂ : Shared) : Prop :=
  ∃ h' tk, s₂ = { s₁ with heap := h', toks := tk } ∧ Fr h₀ L h' m ∧ News h₀ L h' all ∧ ok = b
theorem tstEnd_of {h₀ : Heap} {L : Addr} {m : Str → Option Value} {s₁ : Shared} {all all' : List (Addr × Obj)} {b ok : Bool} {h' : Heap} {tk : Nat} (F : Fr h₀ L h' m) (N : News h₀ L h' all') (hs : ∀ p ∈ all, p ∈ all') (r : ok = b) : TstEnd h₀ L m s₁ all b ok { s₁ with heap := h', toks := tk } := ⟨h', tk, rfl, F, news_sub N hs, r⟩
theorem filter_snoc (p : Nat → Bool) (i : Nat) : (List.range (i + 1)).filter p = (List.range i).filter p ++ (if p i then [i] else []) := by
  rw [List.range_succ, List.filter_append]
  congr 1
  cases h : p i <;> simp [h]
theorem each_restT {ct elt : Expr} {x : Str} {scope : Scope} {cl : List (Str × Addr)} {S : List (Addr × Obj) → Prop} {P : Nat → Value → Prop} {Fin : List Value → List (Addr × Obj) → Prop} {news : List (Addr × Obj)} {n : Nat} (p : Nat → Bool) (Rel : Nat → Value → Prop) (hS : S news)
    (turnT : ∀ i v I oI C oC D m₂ ys h tk (E' : Value → Shared → Prop), i < n → P i v → LCg.NsObj oC m₂ → m₂ x = some v → Fr h₀ L h m → News h₀ L h ((I, oI) :: (C, oC) :: (D, LCg.lst ys) :: news) →
      wpAny (model prog w) A (isTrue ct (compEnvC scope cl C env) (eval ct (compEnvC scope cl C env))) (TstEnd h₀ L m { s with heap := h, toks := tk } ((I, oI) :: (C, oC) :: (D, LCg.lst ys) :: news) (p i)) E' { s with heap := h, toks := tk })
    (turnE : ∀ i v I oI C oC D m₂ ys h tk (E' : Value → Shared → Prop), i < n → p i = true → P i v → LCg.NsObj oC m₂ → m₂ x = some v → Fr h₀ L h m → News h₀ L h ((I, oI) :: (C, oC) :: (D, LCg.lst ys) :: news) →
      wpAny (model prog w) A (eval elt (compEnvC scope cl C env)) (ElEnd h₀ L m { s with heap := h, toks := tk } ((I, oI) :: (C, oC) :: (D, LCg.lst ys) :: news) (Rel i)) E' { s with heap := h, toks := tk })
    (fin : ∀ ys : List Value, ys.length = ((List.range n).filter p).length → (∀ (k : Nat) (y : Value), ys[k]? = some y → ∃ i, ((List.range n).filter p)[k]? = some i ∧ Rel i y) → Fin ys news) : LCt.CompRestT prog w A h₀ L m env ct elt x scope cl s S P Fin n 0 [] news := by
  have key : ∀ (j i : Nat) (ys : List Value), i + j = n → ys.length = ((List.range i).filter p).length → (∀ (k : Nat) (y : Value), ys[k]? = some y → ∃ r, ((List.range i).filter p)[k]? = some r ∧ Rel r y) → LCt.CompRestT prog w A h₀ L m env ct elt x scope cl s S P Fin j i ys news := by
    intro j
    induction j with
    | zero =>
      intro i ys hi hl hr
      have e : i = n := by omega
      subst e
      exact LCt.CompRestT.zero (fin ys hl hr)
    | succ j ih =>
      intro i ys hi hl hr
      refine LCt.CompRestT.succ ?_
      intro v I oI C oC D m₂ h tk E' hv hC hx F N off ne
      refine wpAny_mono (turnT i v I oI C oC D m₂ ys h tk E' (by omega) hv hC hx F N) (fun ok s₂ hq => ?_) fun _ _ e => e
      obtain ⟨h', tk', e, F', N', hok⟩ := hq
      subst e
      rw [hok]
      have fs := filter_snoc p i
      cases hp : p i with
      | false =>
        rw [if_neg Bool.false_ne_true]
        rw [hp] at fs
        simp only [Bool.false_eq_true, if_false, List.append_nil] at fs
        exact ⟨h', tk', news, rfl, F', N', off, hS, ih (i + 1) ys (by omega) (by rw [fs]; exact hl) (by rw [fs]; exact hr)⟩
      | true =>
        rw [if_pos rfl]
        rw [hp] at fs
        simp only [if_true] at fs
        refine wpAny_mono (turnE i v I oI C oC D m₂ ys h' tk' E' (by omega) hp hv hC hx F' N') (fun y s₂ hq => ?_) fun _ _ e => e
        obtain ⟨h'', tk'', e, F'', N'', hy⟩ := hq
        refine ⟨h'', tk'', news, e, F'', N'', off, hS, ih (i + 1) _ (by omega) (by rw [fs]; simp [hl]) fun k z hz => ?_⟩
        rw [fs]
        rcases Nat.lt_or_ge k ys.length with hk | hk
        · rw [List.getElem?_append_left hk] at hz
          obtain ⟨r, h1, h2⟩ := hr k z hz
          exact ⟨r, by rw [List.getElem?_append_left (by omega)]; exact h1, h2⟩
        · rw [List.getElem?_append_right hk] at hz
          have h0 : k - ys.length = 0 := by
            rcases Nat.eq_zero_or_pos (k - ys.length) with h | h
            · exact h
            · rw [List.getElem?_eq_none (by simp; omega)] at hz; cases hz
          rw [h0] at hz
          have e1 : y = z := by simpa using hz
          refine ⟨i, ?_, by rw [← e1]; exact hy⟩
          rw [List.getElem?_append_right (by omega), show k - ((List.range i).filter p).length = 0 by omega]
          rfl
  exact key n 0 [] (by omega) rfl fun k y h => by simp at h
end
end Mine
end

section
open PySem PySem.W PySem.Calls PySem.Spec PyProof.Rows
namespace Mine
open Float64 in
theorem fv_mulr {x y : UInt64} {a n : Int} (hy : Fv x (16 * n)) (hx : Fv y a) (h : (n * a).natAbs < 2 ^ 53) : Fv (mul x y) (n * a) := by
  obtain ⟨sa, _, _, dx⟩ := hx.dec
  obtain ⟨sb, _, _, dy⟩ := hy.dec
  have hR := mul_right dy dx
  have hab : (n * a).natAbs = n.natAbs * a.natAbs := Int.natAbs_mul _ _
  have e16 : (16 * n).natAbs = 16 * n.natAbs := by rw [Int.natAbs_mul]; rfl
  have := right_exact (n := (n * a).natAbs) hR (Nat.two_pow_pos _) h (by
    rw [fv_natAbs hx, fv_natAbs hy, e16, hab, show (1074 : Nat) = 4 + 1070 from rfl, Nat.pow_add]
    generalize (2 : Nat) ^ 1070 = K
    generalize a.natAbs = p; generalize n.natAbs = q
    show 16 * q * K * (p * K) = 16 * K * (q * p * K)
    ac_rfl)
  refine ⟨this.1, ?_⟩
  rw [this.2, sgn_mul, hab, sgn_bne]
  have e1 : val y = sgn sa a.natAbs * ((2 ^ 1070 : Nat) : Int) := by
    have := val_sign dx; rw [fv_natAbs hx, sgn_mul] at this; exact this
  have e2 : val x = sgn sb (16 * n.natAbs) * ((2 ^ 1070 : Nat) : Int) := by
    have := val_sign dy; rw [fv_natAbs hy, e16, sgn_mul] at this; exact this
  have k1 : sgn sa a.natAbs = a := Int.eq_of_mul_eq_mul_right (Int.ne_of_gt U_pos) (e1.symm.trans hx.2)
  have k2 : sgn sb (16 * n.natAbs) = 16 * n := Int.eq_of_mul_eq_mul_right (Int.ne_of_gt U_pos) (e2.symm.trans hy.2)
  have k3 : sgn sb n.natAbs = n := by unfold sgn at k2 ⊢; split at k2 <;> simp_all <;> omega
  rw [k1, k3]
theorem mulif_rule {prog : Program} {w : World} {A : Around} {E : Value → Shared → Prop} {s : Shared} {t u : Tok} {n q : Int} {r : UInt64} {Q : Value → Shared → Prop} (hr : Fv r q) (hn : n.natAbs < 2 ^ 20) (hq : q.natAbs < 2 ^ 30)
    (h : ∀ r' t' tk', Fv r' (n * q) → Q (.float r' t') { s with toks := tk' }) : wpAny (model prog w) A (binaryOp .Mult (.int n u) (.float r t)) Q E s :=
  mul_if_fits (Nat.lt_of_lt_of_le hn (Nat.pow_le_pow_right (by decide) (by decide))) (h _ _ _ (fv_mulr (fv_ofInt (Nat.lt_of_lt_of_le hn (by decide))) hr (by
    rw [Int.natAbs_mul]
    exact Nat.lt_of_le_of_lt (Nat.mul_le_mul (Nat.le_of_lt hn) (Nat.le_of_lt hq)) (by decide))))

def leftAt (x : Str) (i : Nat) : Int := ((rds (i + 1) x).length : Int)
def LF (x : Str) : List Int := (List.range 4).map (leftAt x)
def LV (x : Str) : List Int := lv (KStt.codes x) 4 0
theorem LF_len (x : Str) : (LF x).length = 4 := rfl
theorem LF_0 (x : Str) : 0 < (LF x).length := Nat.le_of_ble_eq_true rfl
theorem LF_500 (x : Str) : (LF x).length ≤ 500 := Nat.le_of_ble_eq_true rfl
theorem isl {h₀ h : Heap} {L a : Addr} {its : Array Value} {n : Nat} {news : List (Addr × Obj)} (N : News h₀ L h news) (hm : (a, ({ cls := .type "list", data := .seq its n } : Obj)) ∈ news) : h.IsList a its := ⟨_, (N _ hm).1, rfl, _, rfl⟩
theorem LF_rng (x : Str) : ∀ n ∈ LF x, 0 ≤ n ∧ n ≤ (x.length : Int) := by
  intro n hn
  obtain ⟨i, _, rfl⟩ := List.mem_map.mp hn
  have := rds_le x (i + 1)
  unfold leftAt; omega
theorem lv_len : ∀ (cs : List Int) (r q : Int), (lv cs r q).length = cs.length
  | [], _, _ => rfl
  | c :: cs, r, q => by unfold lv; split <;> simp [lv_len cs]
theorem codes_len (x : Str) : (KStt.codes x).length = x.length := by simp [KStt.codes, Str.length]
theorem LV_len (x : Str) : (LV x).length = x.length := by rw [LV, lv_len, codes_len]
theorem lv_rng : ∀ (cs : List Int) (r q : Int), 0 ≤ r → r ≤ 4 → ∀ n ∈ lv cs r q, 0 ≤ n ∧ n ≤ 4
  | [], _, _, _, _, n, h => by simp [lv] at h
  | c :: cs, r, q, h0, h4, n, h => by
    have b1 := halv_le (q + 1)
    have b2 := halv_le q
    unfold lv at h
    split at h
    · rcases List.mem_cons.mp h with e | e
      · subst e; omega
      · exact lv_rng cs _ _ h0 h4 n e
    · rcases List.mem_cons.mp h with e | e
      · subst e; split <;> omega
      · exact lv_rng cs _ _ (by split <;> omega) (by split <;> omega) n e
theorem LV_rng (x : Str) : ∀ n ∈ LV x, 0 ≤ n ∧ n ≤ 4 := lv_rng _ _ _ (by decide) (by decide)
theorem sum_rng {B : Int} : ∀ {ns : List Int}, (∀ n ∈ ns, 0 ≤ n ∧ n ≤ B) → 0 ≤ ns.sum ∧ ns.sum ≤ ns.length * B
  | [], _ => by simp
  | a :: l, h => by
    have h1 := h a List.mem_cons_self
    have h2 := sum_rng (B := B) fun n hn => h n (List.mem_cons_of_mem _ hn)
    simp only [List.sum_cons, List.length_cons, Int.natCast_add, Int.add_mul]
    omega
theorem sum_small {ns : List Int} (h : ∀ n ∈ ns, 0 ≤ n ∧ n ≤ 100000) (hl : ns.length ≤ 500) : ∀ i, (16 * (ns.take i).sum).natAbs < 2 ^ 51 := by
  intro i
  have h1 := sum_rng (B := 100000) (ns := ns.take i) fun n hn => h n (List.mem_of_mem_take hn)
  have h2 : (ns.take i).length ≤ ns.length := by rw [List.length_take]; omega
  omega
theorem ent_small {ns : List Int} (h : ∀ n ∈ ns, 0 ≤ n ∧ n ≤ 100000) : ∀ n ∈ ns, n.natAbs < 2 ^ 47 := fun n hn => by have := h n hn; omega
theorem LF_small {x : Str} (h : x.length ≤ 60) : ∀ n ∈ LF x, 0 ≤ n ∧ n ≤ 100000 := fun n hn => by have := LF_rng x n hn; omega

theorem int_getD {vs : List Value} {ks : List Int} (hi : IntsAre vs ks) {i : Nat} {v : Value} (h : vs.toArray[i]? = some v) : ∃ t, v = .int (ks.getD i 0) t := by
  obtain ⟨n, t, rfl, hn⟩ := ints_at hi i v (by simpa using h)
  exact ⟨t, by rw [List.getD_eq_getElem?_getD, hn]; rfl⟩
theorem ints_map {f : Int → Int} : ∀ {vs ys : List Value} {ks : List Int}, IntsAre vs ks → ys.length = vs.toArray.size → (∀ (i : Nat) (y : Value), ys[i]? = some y → ∃ t, y = .int (f (ks.getD i 0)) t) → IntsAre ys (ks.map f)
  | _, ys, _, .nil, hl, _ => by
    rw [List.length_eq_zero_iff.mp hl]; exact .nil
  | _, [], _, .cons n t r, hl, _ => by simp at hl
  | _, y :: ys, _, .cons n t r, hl, h => by
    obtain ⟨u, rfl⟩ := h 0 y rfl
    exact .cons _ u (ints_map r (by simpa using hl) fun i z hz => h (i + 1) z (by simpa using hz))
theorem lsz {vs : List Value} {ks : List Int} (hi : IntsAre vs ks) (h : ks.length ≤ 60) : vs.toArray.size ≤ sizeLine := by
  rw [List.size_toArray, hi.length]
  exact Nat.le_trans h (Nat.le_of_ble_eq_true rfl)
theorem map_sum_mul (n : Int) : ∀ l : List Int, (l.map fun v => n * v).sum = n * l.sum
  | [] => by simp
  | a :: l => by simp only [List.map_cons, List.sum_cons, map_sum_mul n l, Int.mul_add]
theorem SL_small {x : Str} (h : x.length ≤ 60) : ∀ n ∈ (LV x).map (fun v => (x.length : Int) * v), 0 ≤ n ∧ n ≤ 100000 := by
  intro n hn
  obtain ⟨v, hv, rfl⟩ := List.mem_map.mp hn
  have := LV_rng x v hv
  have h1 : 0 ≤ (x.length : Int) * v := Int.mul_nonneg (by omega) this.1
  have h2 : (x.length : Int) * v ≤ 60 * 4 := Int.mul_le_mul (by omega) this.2 this.1 (by omega)
  omega
theorem W5 {t1 t2 t3 t4 t5 : Tok} : IntsAre [.int 1 t1, .int 1 t2, .int 2 t3, .int 4 t4, .int 8 t5] [1, 1, 2, 4, 8] := .cons _ _ (.cons _ _ (.cons _ _ (.cons _ _ (.cons _ _ .nil))))
theorem LF_eq (x : Str) : LF x = [leftAt x 0, leftAt x 1, leftAt x 2, leftAt x 3] := rfl
theorem SLF_small {x : Str} (h : x.length ≤ 60) : ∀ n ∈ (x.length : Int) :: LF x, n.natAbs < 2 ^ 25 := by
  intro n hn
  rcases List.mem_cons.mp hn with e | e
  · subst e; omega
  · have := LF_rng x n e; omega
def PW (x : Str) : List Int := (LV x).map fun v => 2 ^ v.toNat
theorem LV_at {x : Str} (i : Nat) : 0 ≤ (LV x).getD i 0 ∧ (LV x).getD i 0 ≤ 4 := by
  rw [List.getD_eq_getElem?_getD]
  cases e : (LV x)[i]? with
  | none => decide
  | some v => exact LV_rng x v (List.mem_of_getElem? e)
theorem cmp_no {r : UInt64} {n : Int} (h : Fv r (16 * n)) : (Float64.cmpInt r n != some Ordering.eq) = false := by
  rw [fv_cmpInt h]; simp
def WS (x : Str) : List Int := (LV x).map fun v => 15 * v - 30
theorem WS_at (x : Str) (i : Nat) (h : i < x.length) : (WS x).getD i 0 = 15 * (LV x).getD i 0 - 30 := by
  have h1 : i < (LV x).length := by rw [LV_len]; exact h
  have h2 : i < (WS x).length := by unfold WS; rw [List.length_map]; exact h1
  rw [List.getD_eq_getElem?_getD, List.getD_eq_getElem?_getD, List.getElem?_eq_getElem h1, List.getElem?_eq_getElem h2]
  simp [WS]
/-- how many of the four readings pass a test -/
def cntL (x : Str) (p : Int → Bool) : Nat := ((List.range 4).filter fun i => p ((LF x).getD i 0)).length
theorem cnt_of {x : Str} {vs ys : List Value} {p : Int → Bool} (hi : IntsAre vs (LF x)) (h : ys.length = ((List.range vs.toArray.size).filter fun i => p ((LF x).getD i 0)).length) : ys.toArray.size = cntL x p := by
  rw [List.size_toArray, h, List.size_toArray, hi.length]
  rfl
theorem cntL_le (x : Str) (p : Int → Bool) : cntL x p ≤ 4 := by
  unfold cntL
  exact Nat.le_trans (List.length_filter_le _ _) (Nat.le_of_eq (List.length_range))
theorem len_cnt {prog : Program} {w : World} {A : Around} {E : Value → Shared → Prop} {s : Shared} {x : Str} {p : Int → Bool} {l : Addr} {ys : List Value} {Q : Value → Shared → Prop} (hc : ys.toArray.size = cntL x p) (hl : s.heap.IsList l ys.toArray)
    (h : Q (.int ((cntL x p : Nat) : Int) (s.toks + 1)) { s with toks := s.toks + 1 + 1 }) : wpAny (model prog w) A (call (.builtin "len") [.ref l]) Q E s :=
  len_list hl (by have := cntL_le x p; omega) (by rw [hc]; exact h)
theorem WS_len (x : Str) : (WS x).length = x.length := by unfold WS; rw [List.length_map, LV_len]
theorem WS_small (x : Str) : ∀ n ∈ WS x, n.natAbs < 2 ^ 20 := by
  intro n hn
  obtain ⟨v, hv, rfl⟩ := List.mem_map.mp hn
  have := LV_rng x v hv
  omega
def SS (x : Str) : List Int := (List.range x.length).map fun (k : Nat) => 15 * (cntL x (fun v => decide ((x.length : Int) - (k : Int) ≤ v)) : Int) - 30
theorem SS_len (x : Str) : (SS x).length = x.length := by simp [SS]
theorem SS_at {x : Str} {k : Nat} (h : k < x.length) : (SS x).getD k 0 = 15 * (cntL x (fun v => decide ((x.length : Int) - (k : Int) ≤ v)) : Int) - 30 := by
  rw [List.getD_eq_getElem?_getD, List.getElem?_eq_getElem (by rw [SS_len]; exact h)]
  simp [SS]
def lowOf (x : Str) : Int := 15 * (cntL x (fun v => decide ((x.length : Int) < 2 * v)) : Int) - 30
def highOf (x : Str) : Int := 15 * (cntL x (fun v => decide ((x.length : Int) ≤ 2 * v)) : Int) - 30
theorem SS_low {x : Str} (h : 1 ≤ x.length) : (SS x).getD (((WS x).length - 1) / 2) 0 = lowOf x := by
  rw [WS_len, SS_at (by omega)]
  unfold lowOf
  have : (fun v : Int => decide ((x.length : Int) - (((x.length - 1) / 2 : Nat) : Int) ≤ v)) = fun v => decide ((x.length : Int) < 2 * v) := by
    funext v
    exact decide_eq_decide.mpr (by omega)
  rw [this]
theorem SS_high {x : Str} (h : 1 ≤ x.length) : (SS x).getD ((WS x).length / 2) 0 = highOf x := by
  rw [WS_len, SS_at (by omega)]
  unfold highOf
  have : (fun v : Int => decide ((x.length : Int) - ((x.length / 2 : Nat) : Int) ≤ v)) = fun v => decide ((x.length : Int) ≤ 2 * v) := by
    funext v
    exact decide_eq_decide.mpr (by omega)
  rw [this]
theorem leftAt_cg (x : Str) (i : Nat) (h : i < 4) : leftAt x i = (cg i (LV x) : Int) := by
  unfold leftAt
  have e : (rds (i + 1) x).length = (rdsL (i + 1) x.cps.toList).length := by
    rw [← rds_cps, Array.length_toList]; rfl
  rw [e, rdsL_len _ i h]
  rfl
theorem LF_at (x : Str) {i : Nat} (h : i < 4) : (LF x).getD i 0 = leftAt x i := by
  match i, h with
  | 0, _ => rfl
  | 1, _ => rfl
  | 2, _ => rfl
  | 3, _ => rfl
theorem cntL_eq (x : Str) (p : Int → Bool) : cntL x p = (if p (leftAt x 0) then 1 else 0) + (if p (leftAt x 1) then 1 else 0) + (if p (leftAt x 2) then 1 else 0) + (if p (leftAt x 3) then 1 else 0) := by
  have h : cntL x p = ([0, 1, 2, 3].filter fun i => p ((LF x).getD i 0)).length := rfl
  rw [h, ← List.countP_eq_length_filter]
  simp only [List.countP_cons, List.countP_nil, LF_at x (show 0 < 4 by decide), LF_at x (show 1 < 4 by decide), LF_at x (show 2 < 4 by decide), LF_at x (show 3 < 4 by decide)]
  omega
theorem left_le (x : Str) (i : Nat) : leftAt x (i + 1) ≤ leftAt x i := by
  have := rd_le (rds (i + 1) x)
  unfold leftAt
  show (((rd (rds (i + 1) x)).length : Nat) : Int) ≤ _
  omega
theorem cntL_gt (x : Str) (b : Int) {i : Nat} (h : i < 4) : ((i : Int) < (cntL x (fun v => decide (b ≤ v)) : Int)) ↔ b ≤ leftAt x i := by
  rw [cntL_eq]
  simp only [decide_eq_true_eq]
  have h01 : leftAt x 1 ≤ leftAt x 0 := left_le x 0
  have h12 : leftAt x 2 ≤ leftAt x 1 := left_le x 1
  have h23 : leftAt x 3 ≤ leftAt x 2 := left_le x 2
  have hi : i = 0 ∨ i = 1 ∨ i = 2 ∨ i = 3 := by omega
  rcases hi with rfl | rfl | rfl | rfl <;> split <;> split <;> split <;> split <;> constructor <;> intro _ <;> omega
theorem cg_le (i : Nat) (l : List Int) : cg i l ≤ l.length := List.countP_le_length
def FS (x : Str) : List Int := (List.range x.length).map fun (k : Nat) => (cntL x (fun v => decide ((x.length : Int) - (k : Int) ≤ v)) : Int)
theorem FS_perm (x : Str) : (FS x).Perm (LV x) := by
  refine perm_counts ?_ (LV_rng x) (by rw [LV_len]; simp [FS]) ?_
  · intro n hn
    obtain ⟨k, _, rfl⟩ := List.mem_map.mp hn
    have := cntL_le x (fun v => decide ((x.length : Int) - (k : Int) ≤ v))
    omega
  · intro i hi
    unfold FS
    rw [List.countP_map]
    have e : ((fun n => decide ((i : Int) < n)) ∘ fun (k : Nat) => (cntL x (fun v => decide ((x.length : Int) - (k : Int) ≤ v)) : Int)) = fun k : Nat => decide ((x.length : Int) - (k : Int) ≤ ((cg i (LV x) : Nat) : Int)) := by
      funext k
      rw [← leftAt_cg x i hi]
      exact decide_eq_decide.mpr (cntL_gt x _ hi)
    rw [e]
    exact range_count _ _ (by have := cg_le i (LV x); rw [LV_len] at this; exact this)
theorem SS_perm {x : Str} : (SS x).Perm (WS x) := by
  have h := (FS_perm x).map fun v => 15 * v - 30
  unfold FS at h
  rw [List.map_map] at h
  exact h
theorem cntL_mono (x : Str) {a b : Int} (h : b ≤ a) : cntL x (fun v => decide (a ≤ v)) ≤ cntL x (fun v => decide (b ≤ v)) := by
  rw [cntL_eq, cntL_eq]
  simp only [decide_eq_true_eq]
  have key : ∀ c : Int, (if a ≤ c then 1 else 0) ≤ (if b ≤ c then 1 else 0) := by
    intro c; split <;> split <;> omega
  exact Nat.add_le_add (Nat.add_le_add (Nat.add_le_add (key _) (key _)) (key _)) (key _)
theorem SS_sorted {x : Str} : (SS x).Pairwise (· ≤ ·) := by
  unfold SS
  rw [List.pairwise_map]
  refine List.Pairwise.imp ?_ List.pairwise_lt_range
  intro a b hab
  have := cntL_mono x (a := (x.length : Int) - (a : Int)) (b := (x.length : Int) - (b : Int)) (by omega)
  omega
inductive NumIs (y : Value) (k : Int) : Prop
  | int (n : Int) (t : Tok) : y = .int n t → n = k → NumIs y k
  | flt (r : UInt64) (t : Tok) : y = .float r t → Fv r (16 * k) → NumIs y k
theorem nums_of : ∀ {ks : List Int} {ys : List Value}, ys.length = ks.length → (∀ (i : Nat) (y : Value), ys[i]? = some y → NumIs y (ks.getD i 0)) → NumsAre ys ks
  | [], ys, hl, _ => by rw [List.length_eq_zero_iff.mp hl]; exact .nil
  | k :: ks, [], hl, _ => by simp at hl
  | k :: ks, y :: ys, hl, h => by
    have r := nums_of (ks := ks) (ys := ys) (by simpa using hl) fun i z hz => h (i + 1) z (by simpa using hz)
    rcases h 0 y rfl with ⟨n, t, rfl, hn⟩ | ⟨q, t, rfl, hf⟩
    · have : n = k := hn
      subst this; exact .int _ _ r
    · exact .flt _ _ hf r
def mids (x : Str) : List Int := [2 * lowOf x, lowOf x + highOf x, 2 * highOf x]
theorem low_b (x : Str) : (lowOf x).natAbs < 2 ^ 10 := by
  unfold lowOf; have := cntL_le x (fun v => decide ((x.length : Int) < 2 * v)); omega
theorem high_b (x : Str) : (highOf x).natAbs < 2 ^ 10 := by
  unfold highOf; have := cntL_le x (fun v => decide ((x.length : Int) ≤ 2 * v)); omega
theorem odd_mid {n : Nat} (h : n % 2 = 1) : (n - 1) / 2 = n / 2 := by omega
theorem odd_low {x : Str} (h : x.length % 2 = 1) : lowOf x = highOf x := by
  rw [← SS_low (by omega), ← SS_high (by omega), WS_len, odd_mid h]
theorem mid_at {x : Str} {t1 t3 : Tok} {vm v : Value} {i : Nat} (hm : (x.length % 2 = 1 ∧ ∃ t, vm = .int (highOf x) t) ∨ (x.length % 2 ≠ 1 ∧ ∃ r t, vm = .float r t ∧ Fv r (8 * (lowOf x + highOf x)))) (hv : (#[.int (lowOf x) t1, vm, .int (highOf x) t3] : Array Value)[i]? = some v) :
    (∃ k t, v = .int k t ∧ 2 * k = (mids x).getD i 0 ∧ k.natAbs < 2 ^ 10) ∨ (∃ r t, v = .float r t ∧ Fv r (8 * (mids x).getD i 0) ∧ (8 * (mids x).getD i 0).natAbs < 2 ^ 20) := by
  have b1 := low_b x
  have b2 := high_b x
  match i, hv with
  | 0, hv => exact .inl ⟨_, t1, (Option.some.inj hv).symm, rfl, b1⟩
  | 1, hv =>
    have e : vm = v := Option.some.inj hv
    subst e
    rcases hm with ⟨ho, t, rfl⟩ | ⟨_, r, t, rfl, hr⟩
    · refine .inl ⟨_, t, rfl, ?_, b2⟩
      show 2 * highOf x = lowOf x + highOf x
      rw [odd_low ho]; omega
    · refine .inr ⟨r, t, rfl, hr, ?_⟩
      show (8 * (lowOf x + highOf x)).natAbs < 2 ^ 20
      omega
  | 2, hv => exact .inl ⟨_, t3, (Option.some.inj hv).symm, rfl, b2⟩
  | i + 3, hv => simp at hv
def bools (x : Str) : List Bool := [true, decide (x.length % 2 = 1), true]
theorem midk_at {x : Str} {t1 t3 : Tok} {vm v : Value} {i : Nat} (hm : (x.length % 2 = 1 ∧ ∃ t, vm = .int (highOf x) t) ∨ (x.length % 2 ≠ 1 ∧ ∃ r t, vm = .float r t ∧ Fv r (8 * (lowOf x + highOf x)))) (hv : (#[.int (lowOf x) t1, vm, .int (highOf x) t3] : Array Value)[i]? = some v) :
    (∃ k t, v = .int k t ∧ (bools x).getD i false = true) ∨ (∃ r t, v = .float r t ∧ (bools x).getD i false = false) := by
  match i, hv with
  | 0, hv => exact .inl ⟨_, t1, (Option.some.inj hv).symm, rfl⟩
  | 1, hv =>
    have e : vm = v := Option.some.inj hv
    subst e
    rcases hm with ⟨ho, t, rfl⟩ | ⟨ho, r, t, rfl, hr⟩
    · exact .inl ⟨_, t, rfl, decide_eq_true ho⟩
    · exact .inr ⟨r, t, rfl, decide_eq_false ho⟩
  | 2, hv => exact .inl ⟨_, t3, (Option.some.inj hv).symm, rfl⟩
  | i + 3, hv => simp at hv
theorem LF_sum (x : Str) : (LF x).sum = (LV x).sum := by
  rw [← cnt_sum (LV x) (LV_rng x), LF_eq, leftAt_cg x 0 (by decide), leftAt_cg x 1 (by decide), leftAt_cg x 2 (by decide), leftAt_cg x 3 (by decide)]
  simp only [List.sum_cons, List.sum_nil]
  omega
theorem LF_pow (x : Str) : (x.length : Int) + leftAt x 0 + 2 * leftAt x 1 + 4 * leftAt x 2 + 8 * leftAt x 3 = (PW x).sum := by
  have := cnt_pow (LV x) (LV_rng x)
  rw [LV_len] at this
  rw [leftAt_cg x 0 (by decide), leftAt_cg x 1 (by decide), leftAt_cg x 2 (by decide), leftAt_cg x 3 (by decide)]
  exact this
theorem dot_eq (x : Str) : dotI ((x.length : Int) :: LF x) [1, 1, 2, 4, 8] = (PW x).sum := by
  rw [← LF_pow, LF_eq]
  simp [dotI]
  omega
theorem dot_small {x : Str} (h : x.length ≤ 60) : (dotI ((x.length : Int) :: LF x) [1, 1, 2, 4, 8]).natAbs < 2 ^ 30 := by
  rw [dot_eq, ← LF_pow]
  have b : ∀ i, 0 ≤ leftAt x i ∧ leftAt x i ≤ x.length := fun i => by have := rds_le x (i + 1); unfold leftAt; omega
  have := b 0; have := b 1; have := b 2; have := b 3
  omega
end Mine
end

section
open PySem PySem.W PySem.Calls PySem.Spec PyProof.Rows PyProof.Rows.LCg
namespace Mine
section
variable {prog : Program} {w : World} {A : Around} {E : Value → Shared → Prop} {s : Shared} {h₀ : Heap} {L : Addr} {m : Str → Option Value} {env : Env}
theorem push4 (h : Heap) {a b c d : Obj} (ha : a.isFreed = false) (hb : b.isFreed = false) (hc : c.isFreed = false) (hd : d.isFreed = false) :
    ((((h.push a).push b).push c).push d).get? h.objs.size = some a ∧ ((((h.push a).push b).push c).push d).get? (h.objs.size + 1) = some b ∧ ((((h.push a).push b).push c).push d).get? (h.objs.size + 1 + 1) = some c ∧ ((((h.push a).push b).push c).push d).get? (h.objs.size + 1 + 1 + 1) = some d ∧
    ∀ x o, h.get? x = some o → ((((h.push a).push b).push c).push d).get? x = some o := by
  have k : ∀ (g : Heap) (p : Obj) x o, g.get? x = some o → (g.push p).get? x = some o := fun g p x o e => Heap.get?_push_of_some _ e
  refine ⟨k _ _ _ _ (k _ _ _ _ (k _ _ _ _ (Heap.get?_push_size _ ha))), ?_, ?_, ?_, fun x o e => k _ _ _ _ (k _ _ _ _ (k _ _ _ _ (k _ _ _ _ e)))⟩
  · have := Heap.get?_push_size (h.push a) hb
    rw [Heap.size_push] at this
    exact k _ _ _ _ (k _ _ _ _ this)
  · have := Heap.get?_push_size ((h.push a).push b) hc
    rw [Heap.size_push, Heap.size_push] at this
    exact k _ _ _ _ this
  · have := Heap.get?_push_size (((h.push a).push b).push c) hd
    rw [Heap.size_push, Heap.size_push, Heap.size_push] at this
    exact this
theorem eqGives_bb (b : Bool) : PySem.MeetsSeq.EqGives (.bool b) (.bool b) true := fun prog w A E s Q hq => by
  unfold eqBool
  refine wpAny_holding ?_
  rw [if_pos (by cases b <;> rfl)]
  exact wpAny_bind (wpAny_rule (wpAny_pure hq))
theorem fmod2 (n : Nat) : (((n : Int).fmod 2 == 1) : Bool) = decide (n % 2 = 1) := by
  rw [Int.fmod_eq_emod_of_nonneg _ (by decide)]
  rw [Bool.eq_iff_iff]
  simp only [beq_iff_eq, decide_eq_true_eq]
  omega
theorem bools_pair {x : Str} {ys : List Value} (hl : ys.length = 3) (hr : ∀ (i : Nat) (y : Value), ys[i]? = some y → y = .bool ((bools x).getD i false)) : PairEq ys [.bool true, .bool ((x.length : Int).fmod 2 == 1), .bool true] := by
  match ys, hl with
  | [a, b, c], _ =>
    have e0 := hr 0 a rfl
    have e1 := hr 1 b rfl
    have e2 := hr 2 c rfl
    subst e0 e1 e2
    rw [fmod2]
    exact .cons (eqGives_bb _) (.cons (eqGives_bb _) (.cons (eqGives_bb _) .nil))
/-- a new namespace of a comprehension with one cell of its own -/
theorem envK {scope : Scope} {globals : Addr} {cl : List (Str × Addr)} {qual : Str} {outer : Env} {x : Str} {Q : Env → Shared → Prop}
    (hcf : ∀ n acc, cellsFrom n scope.names acc = (x, n) :: acc) (hpc : ∀ h : Heap, pushCells h scope.names = h.push { cls := .type "cell", data := .cell none })
    (h : Q (newEnv scope s.heap.objs.size globals ((x, s.heap.objs.size + 1) :: cl) qual none .none (some outer) builtinsNs) { s with heap := (s.heap.push { cls := .type "dict", data := .dict #[] }).push { cls := .type "cell", data := .cell none } }) :
    wpAny (model prog w) A (newFunctionEnv scope globals cl [] qual none .none (some outer)) Q E s := by
  simp only [newFunctionEnv, Option.isSome_some, if_true]
  refine wpAny_bind (wpAny_alloc ?_)
  refine wpAny_bind (wpAny_layCells _ (fun name kind cells => by cases hkc : kind == NameKind.cell <;> simp [hkc]) _ _ _ _ ?_)
  rw [hcf, hpc, show ({ s with heap := s.heap.push { cls := .type "dict", data := .dict #[] } } : Shared).heap.objs.size = s.heap.objs.size + 1 from Heap.size_push ..]
  refine wpAny_bind ?_
  rw [List.forIn_nil]
  exact wpAny_pure (wpAny_pure h)

/-- what a comprehension over a range asks whose target is a cell -/
def TurnK (prog : Program) (w : World) (A : Around) (h₀ : Heap) (L : Addr) (m : Str → Option Value) (env : Env) (elt : Expr) (x : Str) (scope : Scope) (cl : List (Str × Addr)) (s₁ : Shared) (a : Int) (n : Nat) (news : List (Addr × Obj)) (Rel : Nat → Value → Prop) : Prop :=
  ∀ (i : Nat) (ti : Tok) I oI C oC D K oK ys h tk (E' : Value → Shared → Prop), i < n → oK.data = .cell (some (.int (a + (i : Int)) ti)) → Fr h₀ L h m → News h₀ L h ((I, oI) :: (C, oC) :: (D, LCg.lst ys) :: (K, oK) :: news) →
      wpAny (model prog w) A (eval elt (compEnvC scope ((x, K) :: cl) C env)) (ElEnd h₀ L m { s₁ with heap := h, toks := tk } ((I, oI) :: (C, oC) :: (D, LCg.lst ys) :: (K, oK) :: news) (Rel i)) E' { s₁ with heap := h, toks := tk }
def CompSrcK (prog : Program) (w : World) (A : Around) (h₀ : Heap) (L : Addr) (m : Str → Option Value) (env : Env) (elt : Expr) (x : Str) (scope : Scope) (cl : List (Str × Addr)) (Fin : Shared → List Value → List (Addr × Obj) → Prop) (xv : Value) (s₁ : Shared) : Prop :=
  ∃ (r : Addr) (a b : Int) (t u v : Tok) (n : Nat) (news : List (Addr × Obj)) (Rel : Nat → Value → Prop), xv = .ref r ∧ A.handled = none ∧ Fr h₀ L s₁.heap m ∧ News h₀ L s₁.heap news ∧ IsRange s₁.heap r a b 1 t u v ∧ Builtin.Range.small a b 1 = true ∧ Builtin.Range.rangeSize a b 1 = ((n : Nat) : Int) ∧ n ≤ sizeLine ∧
    TurnK prog w A h₀ L m env elt x scope cl s₁ a n news Rel ∧
    (∀ ys : List Value, ys.length = n → (∀ (i : Nat) (y : Value), ys[i]? = some y → Rel i y) → Fin s₁ ys news)
theorem compSrcK {elt : Expr} {x : Str} {scope : Scope} {cl : List (Str × Addr)} {Fin : Shared → List Value → List (Addr × Obj) → Prop} {r : Addr} {a b : Int} {t u v : Tok} {n : Nat} {news : List (Addr × Obj)} {s₁ : Shared} (Rel : Nat → Value → Prop)
    (hh : A.handled = none) (F : Fr h₀ L s₁.heap m) (N : News h₀ L s₁.heap news) (hr : IsRange s₁.heap r a b 1 t u v) (hsm : Builtin.Range.small a b 1 = true) (hn : Builtin.Range.rangeSize a b 1 = ((n : Nat) : Int)) (hsz : n ≤ sizeLine)
    (turn : ∀ (i : Nat) (ti : Tok) I oI C oC D K oK ys h tk (E' : Value → Shared → Prop), i < n → oK.data = .cell (some (.int (a + (i : Int)) ti)) → Fr h₀ L h m → News h₀ L h ((I, oI) :: (C, oC) :: (D, LCg.lst ys) :: (K, oK) :: news) →
      wpAny (model prog w) A (eval elt (compEnvC scope ((x, K) :: cl) C env)) (ElEnd h₀ L m { s₁ with heap := h, toks := tk } ((I, oI) :: (C, oC) :: (D, LCg.lst ys) :: (K, oK) :: news) (Rel i)) E' { s₁ with heap := h, toks := tk })
    (fin : ∀ ys : List Value, ys.length = n → (∀ (i : Nat) (y : Value), ys[i]? = some y → Rel i y) → Fin s₁ ys news) :
    CompSrcK prog w A h₀ L m env elt x scope cl Fin (.ref r) s₁ := ⟨r, a, b, t, u, v, n, news, Rel, rfl, hh, F, N, hr, hsm, hn, hsz, turn, fin⟩

theorem blockK {elt iter : Expr} {x : Str} {px : Pos} {scope : Scope} {cl : List (Str × Addr)} {pos : Pos} {r : Addr} {a b : Int} {t u v : Tok} {n : Nat} {news : List (Addr × Obj)} {s₁ : Shared} {Rel : Nat → Value → Prop} {RR : Value → Addr → Result → Shared → Prop}
    (hkind : scope.kind = .function) (hx : (relabel scope env).names.lookup x = some .cell)
    (hcf : ∀ n acc, cellsFrom n scope.names acc = (x, n) :: acc) (hpc : ∀ h : Heap, pushCells h scope.names = h.push { cls := .type "cell", data := .cell none })
    (hh : A.handled = none) (F : Fr h₀ L s₁.heap m) (N : News h₀ L s₁.heap news) (hr : IsRange s₁.heap r a b 1 t u v) (hsm : Builtin.Range.small a b 1 = true) (hn : Builtin.Range.rangeSize a b 1 = ((n : Nat) : Int)) (hsz : n ≤ sizeLine)
    (turn : TurnK prog w A h₀ L m env elt x scope cl s₁ a n news Rel)
    (fin : ∀ D C h tk m' ys, ys.length = n → (∀ (i : Nat) (y : Value), ys[i]? = some y → Rel i y) → Fr h₀ L h m → News h₀ L h ((D, LCg.lst ys) :: news) → h.Ns C m' → h₀.get? C = none → C ≠ L → C ≠ D → (∀ p ∈ news, p.1 ≠ C) → (∀ p ∈ news, p.1 ≠ D) → RR (.ref D) C (.ok .next) { s₁ with heap := h, toks := tk }) :
    wpAny (model prog w) A (pyIter (.ref r)) (fun it s₂ => wpAny (model prog w) A (newList []) (fun acc s₃ => wpAny (model prog w) A (newFunctionEnv scope env.globals cl [] env.qual none .none (some env)) (fun cenv s₄ =>
      codeAny (model prog w) A (.compStart (.ListComp elt [⟨.Name x px, iter, [], 0⟩] scope pos) 0 it acc { cenv with scope := relabel scope env }) (RR acc cenv.locals) s₄) E s₃) E s₂) E s₁ := by
  refine wpAny_pyIter_range hr hsm ?_
  refine wpAny_newObj_type (envK hcf hpc ?_)
  dsimp only
  obtain ⟨gI, gD, gC, gK, old⟩ := push4 s₁.heap (a := { cls := .type "range_iterator", data := .fields #[rawInt a, rawInt (Builtin.Range.rangeSize a b 1), rawInt 1] }) (b := { cls := .type "list", dict := none, data := .seq ([] : List Value).toArray }) (c := { cls := .type "dict", data := .dict #[] }) (d := { cls := .type "cell", data := .cell none }) rfl rfl rfl rfl
  rw [show ((s₁.heap.push { cls := .type "range_iterator", data := .fields #[rawInt a, rawInt (Builtin.Range.rangeSize a b 1), rawInt 1] }).push { cls := .type "list", dict := none, data := .seq ([] : List Value).toArray }).objs.size = s₁.heap.objs.size + 1 + 1 by rw [Heap.size_push, Heap.size_push], show (s₁.heap.push { cls := .type "range_iterator", data := .fields #[rawInt a, rawInt (Builtin.Range.rangeSize a b 1), rawInt 1] }).objs.size = s₁.heap.objs.size + 1 by rw [Heap.size_push]]
  generalize ((((s₁.heap.push { cls := .type "range_iterator", data := .fields #[rawInt a, rawInt (Builtin.Range.rangeSize a b 1), rawInt 1] }).push { cls := .type "list", dict := none, data := .seq ([] : List Value).toArray }).push { cls := .type "dict", data := .dict #[] }).push { cls := .type "cell", data := .cell none }) = H at gI gD gC gK old ⊢
  have lt : ∀ (b : Addr) (o : Obj), s₁.heap.get? b = some o → (b : Nat) < s₁.heap.objs.size := fun b o e => Heap.lt_size e
  have f0 : ∀ c : Addr, s₁.heap.objs.size ≤ (c : Nat) → h₀.get? c = none := fun c hc => by
    cases e : h₀.get? c with
    | none => rfl
    | some o => exact absurd (lt _ _ (F.keep _ _ e)) (Nat.not_lt.mpr hc)
  have hL : (L : Nat) < s₁.heap.objs.size := F.ns.lt
  generalize hz : s₁.heap.objs.size = z at *
  have hI0 := f0 z (Nat.le_refl _)
  have hD0 := f0 (z + 1) (Nat.le_succ _)
  have hC0 := f0 (z + 1 + 1) (Nat.le_trans (Nat.le_succ _) (Nat.le_succ _))
  have hK0 := f0 (z + 1 + 1 + 1) (Nat.le_trans (Nat.le_trans (Nat.le_succ _) (Nat.le_succ _)) (Nat.le_succ _))
  have hnl : ∀ p ∈ news, (p.1 : Nat) < z := fun p hp => lt _ _ (N p hp).1
  have hnI : ∀ p ∈ news, p.1 ≠ z := fun p hp e => absurd (hnl p hp) (by rw [e]; exact Nat.lt_irrefl _)
  have hnD : ∀ p ∈ news, p.1 ≠ z + 1 := fun p hp e => absurd (hnl p hp) (by rw [e]; exact Nat.not_lt.mpr (Nat.le_succ _))
  have hnC : ∀ p ∈ news, p.1 ≠ z + 1 + 1 := fun p hp e => absurd (hnl p hp) (by rw [e]; exact Nat.not_lt.mpr (Nat.le_trans (Nat.le_succ _) (Nat.le_succ _)))
  have hnK : ∀ p ∈ news, p.1 ≠ z + 1 + 1 + 1 := fun p hp e => absurd (hnl p hp) (by rw [e]; exact Nat.not_lt.mpr (Nat.le_trans (Nat.le_trans (Nat.le_succ _) (Nat.le_succ _)) (Nat.le_succ _)))
  have hLI : L ≠ z := Nat.ne_of_lt hL
  have hLD : L ≠ z + 1 := Nat.ne_of_lt (Nat.lt_succ_of_lt hL)
  have hLC : L ≠ z + 1 + 1 := Nat.ne_of_lt (Nat.lt_succ_of_lt (Nat.lt_succ_of_lt hL))
  have hLK : L ≠ z + 1 + 1 + 1 := Nat.ne_of_lt (Nat.lt_succ_of_lt (Nat.lt_succ_of_lt (Nat.lt_succ_of_lt hL)))
  have d1 : z ≠ z + 1 := Nat.ne_of_lt (Nat.lt_succ_self _)
  have d2 : z ≠ z + 1 + 1 := Nat.ne_of_lt (Nat.lt_succ_of_lt (Nat.lt_succ_self _))
  have d3 : z ≠ z + 1 + 1 + 1 := Nat.ne_of_lt (Nat.lt_succ_of_lt (Nat.lt_succ_of_lt (Nat.lt_succ_self _)))
  have d4 : z + 1 ≠ z + 1 + 1 := Nat.ne_of_lt (Nat.lt_succ_self _)
  have d5 : z + 1 ≠ z + 1 + 1 + 1 := Nat.ne_of_lt (Nat.lt_succ_of_lt (Nat.lt_succ_self _))
  have d6 : z + 1 + 1 ≠ z + 1 + 1 + 1 := Nat.ne_of_lt (Nat.lt_succ_self _)
  have W := LCg.range_walks (prog := prog) (w := w) (A := A) (I := z) hh a n
  have loop : ∀ s₃ : Shared, s₃ = { s₁ with heap := H } → codeAny (model prog w) A (.compLoop (.ListComp elt [⟨.Name x px, iter, [], 0⟩] scope pos) 0 (.ref z) (.ref (z + 1)) (compEnvC scope ((x, z + 1 + 1 + 1) :: cl) (z + 1 + 1) env)) (RR (.ref (z + 1)) (z + 1 + 1)) s₃ := by
    rintro s₃ rfl
    refine codeAny_compLoop_tests
      (fun k s' => ∃ h' tk i ys m' v0, s' = { s₁ with heap := h', toks := tk } ∧ i ≤ n ∧ k = n + 1 - i ∧ ys.length = i ∧ IsRangeIter h' z (a + (i : Nat) * 1) ((n : Int) - (i : Nat)) 1 ∧ Fr h₀ L h' m ∧ h'.Ns (z + 1 + 1) m' ∧ h'.IsCell (z + 1 + 1 + 1) v0 ∧ News h₀ L h' ((z + 1, LCg.lst ys) :: news) ∧ (∀ (k : Nat) (y : Value), ys[k]? = some y → Rel k y)) ?_ (n + 1)
      ⟨H, _, 0, [], fun name => nsFind #[] name, none, rfl, Nat.zero_le _, rfl, rfl, ?_, F.keeps old, ⟨_, _, _, gC, rfl, ?_, fun _ => rfl⟩, ⟨_, gK, rfl⟩, fun p hp => ?_, fun k y h => by simp at h⟩
    · rintro k s' ⟨h', tk, i, ys, m', v0, rfl, hi, rfl, hyl, hst, F', hn', hK', N', hrel⟩
      by_cases hlt : i < n
      · refine W.item i _ _ _ hlt hst fun v h₂ tk₂ hv hst₂ hk₂ => ?_
        obtain ⟨ti, rfl⟩ := hv
        have hk2 : ∀ b o, b ≠ z → h'.get? b = some o → h₂.get? b = some o := fun b o hb e => hk₂ b o (by simpa using hb) e
        have hn₂ : h₂.Ns (z + 1 + 1) m' := hn'.at' fun o e => hk2 _ o d2.symm e
        obtain ⟨oK0, eK0, dK0⟩ := hK'
        have hK₂ : h₂.IsCell (z + 1 + 1 + 1) v0 := ⟨oK0, hk2 _ _ d3.symm eK0, dK0⟩
        refine wpAny_assign_Name (wpAny_storeName_cell (c := z + 1 + 1 + 1) hkind hx ?_ hK₂ fun h₃ hK₃ hs₃ => ?_)
        · simp [compEnvC]
        refine wpAny_tests_nil ?_
        simp only [if_true]
        obtain ⟨oK, eK, dK⟩ := hK₃
        have hst₃ : IsRangeIter h₃ z (a + ((i + 1 : Nat) : Int) * 1) ((n : Int) - ((i + 1 : Nat) : Int)) 1 := W.frame _ _ _ hst₂ fun b hb o e => hs₃.extBut b o (by rw [List.mem_singleton.mp hb]; exact d3) e
        have F₃ : Fr h₀ L h₃ m := (LCg.fr_but F' hk₂ hLI hI0).change hs₃ hLK.symm hK0
        obtain ⟨oC, eC, hoC⟩ := LCg.ns_obj (hn₂.at' fun o e => hs₃.extBut _ o d6 e)
        have zI : h₃.get? z = some _ := hst₃
        have N₃ : News h₀ L h₃ ((z, _) :: (z + 1 + 1, oC) :: (z + 1, LCg.lst ys) :: (z + 1 + 1 + 1, oK) :: news) := fun p hp => by
          rcases List.mem_cons.mp hp with rfl | hp
          · exact ⟨zI, hLI.symm, hI0⟩
          · rcases List.mem_cons.mp hp with rfl | hp
            · exact ⟨eC, hLC.symm, hC0⟩
            · rcases List.mem_cons.mp hp with rfl | hp
              · have q := N' (z + 1, LCg.lst ys) List.mem_cons_self
                exact ⟨hs₃.extBut _ _ d5 (hk2 _ _ d1.symm q.1), q.2⟩
              · rcases List.mem_cons.mp hp with rfl | hp
                · exact ⟨eK, hLK.symm, hK0⟩
                · have q := N' p (List.mem_cons_of_mem _ hp)
                  exact ⟨hs₃.extBut _ _ (hnK p hp) (hk2 _ _ (hnI p hp) q.1), q.2⟩
        refine wpAny_mono (turn i ti z _ (z + 1 + 1) oC (z + 1) (z + 1 + 1 + 1) oK ys h₃ _ _ hlt dK F₃ N₃) (fun y s₄ h₄ => ?_) fun _ _ e => e
        obtain ⟨h₄, tk₄, rfl, F₄, N₄, hy⟩ := h₄
        have zI4 := (N₄ _ List.mem_cons_self).1
        have zC4 := (N₄ _ (List.mem_cons_of_mem _ List.mem_cons_self)).1
        have zD4 := (N₄ _ (List.mem_cons_of_mem _ (List.mem_cons_of_mem _ List.mem_cons_self))).1
        have zK4 := (N₄ _ (List.mem_cons_of_mem _ (List.mem_cons_of_mem _ (List.mem_cons_of_mem _ List.mem_cons_self)))).1
        have N4' : News h₀ L h₄ news := fun p hp => N₄ p (List.mem_cons_of_mem _ (List.mem_cons_of_mem _ (List.mem_cons_of_mem _ (List.mem_cons_of_mem _ hp))))
        refine append_at (hsz := by show ys.toArray.size ≤ sizeLine; rw [List.size_toArray, hyl]; exact Nat.le_trans hi hsz) zD4 fun h₅ hs₅ hD₅ => ?_
        refine ⟨n + 1 - (i + 1), by omega, h₅, tk₄, i + 1, ys ++ [y], _, _, rfl, hlt, rfl, by rw [List.length_append, List.length_singleton, hyl], hs₅.extBut _ _ d1 zI4, F₄.change hs₅ hLD.symm hD0, (hoC.ns zC4).at' fun o e => hs₅.extBut _ o d4.symm e, ⟨oK, hs₅.extBut _ _ d5.symm zK4, dK⟩, fun p hp => ?_, fun k u hk => ?_⟩
        · rcases List.mem_cons.mp hp with rfl | hp
          · exact ⟨hD₅.trans (congrArg some (LCg.lst_snoc ys y)), hLD.symm, hD0⟩
          · exact ⟨hs₅.extBut _ _ (hnD p hp) (N4' p hp).1, (N4' p hp).2⟩
        · rcases Nat.lt_or_ge k ys.length with hk1 | hk1
          · rw [List.getElem?_append_left hk1] at hk; exact hrel k u hk
          · rw [List.getElem?_append_right hk1] at hk
            have h0 : k - ys.length = 0 := by
              rcases Nat.eq_zero_or_pos (k - ys.length) with h | h
              · exact h
              · rw [List.getElem?_eq_none (by simp; omega)] at hk; cases hk
            rw [h0] at hk
            have e1 : y = u := by simpa using hk
            have e2 : k = i := by omega
            rw [e2, ← e1]; exact hy
      · obtain rfl : i = n := Nat.le_antisymm hi (Nat.not_lt.mp hlt)
        refine W.done _ _ _ hst fun h₂ tk₂ hk₂ => ?_
        have hk2 : ∀ b o, b ≠ z → h'.get? b = some o → h₂.get? b = some o := fun b o hb e => hk₂ b o (by simpa using hb) e
        refine fin (z + 1) (z + 1 + 1) h₂ tk₂ m' ys hyl hrel (LCg.fr_but F' hk₂ hLI hI0) (fun p hp => ?_) (hn'.at' fun o e => hk2 _ o d2.symm e) hC0 hLC.symm d4.symm hnC hnD
        rcases List.mem_cons.mp hp with rfl | hp
        · have q := N' _ List.mem_cons_self
          exact ⟨hk2 _ _ d1.symm q.1, q.2⟩
        · have q := N' p (List.mem_cons_of_mem _ hp)
          exact ⟨hk2 _ _ (hnI p hp) q.1, q.2⟩
    · show H.get? z = some _
      rw [hn] at gI
      simpa using gI
    · intro e he; simp at he
    · rcases List.mem_cons.mp hp with rfl | hp
      · exact ⟨gD, hLD.symm, hD0⟩
      · exact ⟨old _ _ (N p hp).1, (N p hp).2⟩
  have hst0 : IsRangeIter H z (a + ((0 : Nat) : Int) * 1) ((n : Int) - ((0 : Nat) : Int)) 1 := by
    show H.get? z = some _
    rw [hn] at gI
    simpa using gI
  exact codeAny_compStart_list (loop _ rfl) (W.self 0 _ _ _ hst0 (loop _ rfl))
theorem off1_of {D : Addr} : ∀ {l : List (Addr × Obj)}, (∀ p ∈ l, p.1 ≠ D) → LCg.Off1 D l
  | [], _ => trivial
  | _ :: _, h => ⟨h _ List.mem_cons_self, off1_of fun p hp => h p (List.mem_cons_of_mem _ hp)⟩
theorem ListComp_K {elt iter : Expr} {x : Str} {px : Pos} {scope : Scope} {cl : List (Str × Addr)} {pos : Pos} {Q : Value → Shared → Prop} (F₀ : Fr h₀ L s.heap m)
    (hclos : closureFor scope env = pure cl) (hkind : scope.kind = .function)
    (hnames : ∀ y ∈ scope.names, y.2 = .local → scope.names.lookup y.1 = some .local) (hx : (relabel scope env).names.lookup x = some .cell)
    (hcf : ∀ n acc, cellsFrom n scope.names acc = (x, n) :: acc) (hpc : ∀ h : Heap, pushCells h scope.names = h.push { cls := .type "cell", data := .cell none })
    (h : wpAny (model prog w) A (eval iter env) (CompSrcK prog w A h₀ L m env elt x scope cl (fun s₂ => LCg.FinE h₀ L m s₂ Q)) E s)
    (hs : ∀ x, foldedSetIterable iter env x = pure x := by intro _; rfl) :
    wpAny (model prog w) A (eval (.ListComp elt [⟨.Name x px, iter, [], 0⟩] scope pos) env) Q E s := by
  rw [eval_ListComp]
  refine wpAny_comprehension_free (use := none) rfl hs hclos hkind hnames (wpAny_mono h (fun xv s₁ h₁ => ?_) fun _ _ e => e)
  obtain ⟨r, a, b, t, u, v, n, news, Rel, rfl, hh, F, N, hr, hsm, hn, hsz, turn, fin⟩ := h₁
  refine blockK hkind hx hcf hpc hh F N hr hsm hn hsz turn ?_
  intro D C h tk m' ys hyl hrel F' N' hn' hC0 hCL hCD hnC hnD
  refine ⟨m', hn', fun h'' hs'' => fin ys hyl hrel D h'' tk (F'.change hs'' hCL hC0) (fun p hp => ?_) (off1_of hnD)⟩
  have q := N' p hp
  refine ⟨hs''.extBut _ _ ?_ q.1, q.2⟩
  rcases List.mem_cons.mp hp with rfl | hp
  · exact hCD.symm
  · exact hnC p hp
theorem Assign_ListComp_K {elt iter : Expr} {x y : Str} {px py : Pos} {scope : Scope} {cl : List (Str × Addr)} {pos spos : Pos} {Q : Flow → Shared → Prop} (F₀ : Fr h₀ L s.heap m) (hLe : env.locals = L)
    (hsw : swapsWith (.ListComp elt [⟨.Name x px, iter, [], 0⟩] scope pos) (some (.Name y py)) spos.line env = pure true)
    (hclos : closureFor scope env = pure cl) (hkind : scope.kind = .function)
    (hnames : ∀ z ∈ scope.names, z.2 = .local → scope.names.lookup z.1 = some .local) (hx : (relabel scope env).names.lookup x = some .cell)
    (hcf : ∀ n acc, cellsFrom n scope.names acc = (x, n) :: acc) (hpc : ∀ h : Heap, pushCells h scope.names = h.push { cls := .type "cell", data := .cell none })
    (hy : env.kindOf y = some .local) (hp : (env.scope.kind == .class || (env.scope.kind == .module && env.locals != env.globals)) = false)
    (h : wpAny (model prog w) A (eval iter env) (CompSrcK prog w A h₀ L m env elt x scope cl (fun s₂ => LCg.FinA h₀ L m s₂ y Q)) E s)
    (hs : ∀ x, foldedSetIterable iter env x = pure x := by intro _; rfl) :
    wpAny (model prog w) A (exec (.Assign [.Name y py] (.ListComp elt [⟨.Name x px, iter, [], 0⟩] scope pos) spos) env) Q E s := by
  subst hLe
  rw [exec_Assign_Name_used _ _ _ _ hsw]
  refine wpAny_bind (wpAny_standAt (wpAny_bind ?_))
  show wpAny _ A (do let _ ← comprehension (.ListComp elt [⟨.Name x px, iter, [], 0⟩] scope pos) scope env _ (newList []) false (eval iter env) (some (assign (.Name y py) env))) _ _ s
  refine wpAny_bind (wpAny_mono (wpAny_comprehension_free (use := some (assign (.Name y py) env)) (Q := fun _ s' => Q .next s') rfl hs hclos hkind hnames
    (wpAny_mono h (fun xv s₁ h₁ => ?_) fun _ _ e => e)) (fun _ s' hq => wpAny_pure (wpAny_pure hq)) fun _ _ e => e)
  obtain ⟨r, a, b, t, u, v, n, news, Rel, rfl, hh, F, N, hr, hsm, hn, hsz, turn, fin⟩ := h₁
  refine blockK hkind hx hcf hpc hh F N hr hsm hn hsz turn ?_
  intro D C h tk m' ys hyl hrel F' N' hn' hC0 hCL hCD hnC hnD
  show wpAny _ A (assign (.Name y py) env (.ref D)) _ _ _
  refine wpAny_assign_Name (wpAny_storeName_local hy F'.ns (fun h₂ hn₂ hs₂ => ?_) hp)
  have hL₀ : h₀.get? env.locals = none := Heap.get?_none_of_le F'.above
  have F₂ : Fr h₀ env.locals h₂ (fun z => if z = y then some (.ref D) else m z) := ⟨hn₂, fun b o e => hs₂.extBut b o (fun q => by rw [q, hL₀] at e; cases e) (F'.keep b o e), F'.above⟩
  refine ⟨m', hn'.sameBut hs₂ hCL, fun h'' hs'' => fin ys hyl hrel D h'' _ (F₂.change hs'' hCL hC0) (fun p hp => ?_) (off1_of hnD)⟩
  have z : h₂.get? p.1 = some p.2 := hs₂.extBut _ _ (N' p hp).2.1 (N' p hp).1
  refine ⟨hs''.extBut _ _ ?_ z, (N' p hp).2⟩
  rcases List.mem_cons.mp hp with rfl | hp
  · exact hCD.symm
  · exact hnC p hp
end
end Mine
end

section
open PySem PySem.W PySem.Calls PySem.Spec PyProof.Rows
namespace Mine
section
variable {prog : Program} {w : World} {A : Around} {E : Value → Shared → Prop} {s : Shared}
/-- where an index points -/
def idx (k : Int) (n : Nat) : Nat := (if k < 0 then k + n else k).toNat
theorem item_is {value slice : Expr} {l : Addr} {vs : List Value} {ns : List Int} {k : Int} {u : Tok} {Q : Value → Shared → Prop} (hl : s.heap.IsList l vs.toArray) (hi : IntsAre vs ns)
    (h0 : -(ns.length : Int) ≤ k) (h1 : k < ns.length) (h60 : ns.length ≤ 100) (h : ∀ t, Q (.int (ns.getD (idx k ns.length) 0) t) s)
    (hs : subscripted slice false (.ref l) (.int k u) = operate [.ref l, .int k u] (getItem (.ref l) (.int k u)) := by with_unfolding_all rfl) (hg : ∀ r, letTemporaryGo value (.ref l) r = pure () := by intro _; with_unfolding_all rfl) :
    wpAny (model prog w) A (subscriptTail value slice (.ref l) (.int k u)) Q E s := by
  have hn := hi.length
  have hj : idx k ns.length < vs.length := by unfold idx; split <;> omega
  have hv : vs[idx k ns.length]? = some vs[idx k ns.length] := List.getElem?_eq_getElem hj
  obtain ⟨n, t, e, hk⟩ := ints_at hi _ _ hv
  have hd : ns.getD (idx k ns.length) 0 = n := by rw [List.getD_eq_getElem?_getD, hk]; rfl
  rw [e] at hv
  have hq := h t
  rw [hd] at hq
  by_cases hneg : k < 0
  · refine subscriptTail_builtin hl.typeIs slot_list_getitem.lookup (wpAny_getItem_list_neg (x := .int n t) hl hneg (by rw [List.size_toArray]; omega) (by omega) (by
      have e2 : idx k ns.length = (k + (vs.toArray.size : Nat)).toNat := by unfold idx; rw [if_pos hneg, List.size_toArray, hn]
      rw [← e2]; simpa using hv) hq) hs hg
  · exact item_list hl (by omega) (by omega) (x := .int n t) (by
      have : idx k ns.length = k.toNat := by unfold idx; rw [if_neg hneg]
      rw [← this]; simpa using hv) hq hs hg
end
theorem halves_at : ∀ {us : List Value} {ks : List Int} {i : Nat} {v : Value}, HalvesAre us ks → us.toArray[i]? = some v → (∃ n t, v = .int n t ∧ 2 * n = ks.getD i 0) ∨ (∃ r t, v = .float r t ∧ Fv r (8 * ks.getD i 0))
  | _, _, _, _, .nil, h => by simp at h
  | _, _, 0, v, .int n t r, h => .inl ⟨n, t, by simpa using h.symm, rfl⟩
  | _, _, 0, v, .flt q t hq r, h => .inr ⟨q, t, by simpa using h.symm, hq⟩
  | _, _, i + 1, v, .int n t r, h => halves_at (i := i) r (by simpa using h)
  | _, _, i + 1, v, .flt q t hq r, h => halves_at (i := i) r (by simpa using h)
theorem useK {prog : Program} {w : World} {K : Frag} {p : Program} {loose : List Str} {mean : ExcName → Option Value} {mg mb : Str → Option Value} {f : Addr} {args : List Value} {kw : List (Str × Value)} {pre : Heap → Prop} {D U : Nat} {post : Value → List (Addr × Obj) → Prop}
    {dp un : Nat} {gd : Option (List Code)} {cn : Str} {cs : Scope} {a : Addr} {ccd : Value} {cl : List (Str × Addr)} {outer : List Env} {A₀ : Around} {base h₀ : Heap} {L : Addr} {m : Str → Option Value} {news : List (Addr × Obj)} {s : Shared} {Q E : Value → Shared → Prop}
    (C : TellsK prog w K p loose mean mg mb f args kw pre D U post)
    (B : Below A₀ base outer h₀) (F : Fr h₀ L s.heap m) (X : K.In h₀) (N : News h₀ L s.heap news) (T : Top p loose mean mg mb h₀) (hk : cs.kind = .function) (hp : pre s.heap) (hd : dp + D < recursionLimit) (hu : un + U < cLine)
    (ret : ∀ v nw h' tk', Fr h₀ L h' m → News h₀ L h' (nw ++ news) → (∀ b o, s.heap.get? b = some o → h'.get? b = some o) → (∀ q ∈ nw, AllNe news q.1) → post v nw → Q v { s with heap := h', toks := tk' }) :
    wpAny (model prog w) (ktrTop dp un gd cn cs L a ccd cl outer) (call (.ref f) args kw) Q E s := C _ _ _ _ _ _ _ _ _ _ _ _ _ _ _ _ _ _ B F X N T hk hp hd hu ret
theorem SS_b {x : Str} (k : Nat) : ((SS x).getD k 0).natAbs ≤ 30 := by
  rcases Nat.lt_or_ge k x.length with h | h
  · rw [SS_at h]
    have := cntL_le x (fun v => decide ((x.length : Int) - (k : Int) ≤ v))
    omega
  · rw [List.getD_eq_getElem?_getD, List.getElem?_eq_none (by rw [SS_len]; exact h)]; decide
theorem cuts_b {x : Str} (k : Nat) : (8 * (cutsOf (SS x)).getD k 0).natAbs < 2 ^ 20 := by
  rw [List.getD_eq_getElem?_getD]
  cases e : (cutsOf (SS x))[k]? with
  | none => decide
  | some v =>
    have hm := List.mem_of_getElem? e
    show (8 * v).natAbs < 2 ^ 20
    unfold cutsOf at hm
    split at hm
    · have := List.eq_of_mem_replicate hm
      have := SS_b (x := x) 0
      omega
    · rename_i h2
      obtain ⟨i, hi, rfl⟩ := List.mem_map.mp hm
      have hr := mem_rangeKs hi
      have he := cut_e (n := (SS x).length) (k := i) (by omega) hr.1 (by omega)
      have m3 : ∀ {a e : Int}, a.natAbs ≤ 30 → -3 ≤ e ∧ e ≤ 3 → (a * e).natAbs ≤ 90 := by
        intro a e ha he
        rw [Int.natAbs_mul]
        have : e.natAbs ≤ 3 := by omega
        exact Nat.le_trans (Nat.mul_le_mul ha this) (by decide)
      have h1 := m3 (SS_b (x := x) (cutJ (SS x).length i - 1).toNat) (e := 2 - (i - 2 * cutJ (SS x).length i)) (by omega)
      have h3 := m3 (SS_b (x := x) (cutJ (SS x).length i).toNat) (e := i - 2 * cutJ (SS x).length i) (by omega)
      unfold cut2
      omega
/-- the steps of the cuts -/
def stepsOf (x : Str) : List Int := [2 * (SS x).getD (idx 0 (SS x).length) 0 - (SS x).getD (idx (Int.fmod 1 (x.length : Int)) (SS x).length) 0] ++ SS x ++ [2 * (SS x).getD (idx (-1) (SS x).length) 0 - (SS x).getD (idx ((x.length : Int) - 2) (SS x).length) 0]
theorem steps_len (x : Str) : (stepsOf x).length = x.length + 2 := by simp [stepsOf, SS_len]
theorem fm1 {n : Nat} (h : 1 ≤ n) : 0 ≤ Int.fmod 1 (n : Int) ∧ Int.fmod 1 (n : Int) < n := by
  rw [Int.fmod_eq_emod_of_nonneg _ (by omega)]
  exact ⟨Int.emod_nonneg _ (by omega), Int.emod_lt_of_pos _ (by omega)⟩
theorem cuts_len {ss : List Int} (h : 1 ≤ ss.length) : (cutsOf ss).length = 2 * ss.length + 1 := by
  unfold cutsOf
  split
  · rw [List.length_replicate]; omega
  · rw [List.length_map, rangeKs_length]
theorem halves_sz {x : Str} {us : List Value} (hi : HalvesAre us (cutsOf (SS x))) (h : x.length ≤ 60) : us.toArray.size ≤ sizeLine := by
  rw [List.size_toArray, hi.length]
  refine Nat.le_trans (m := 200) ?_ (Nat.le_of_ble_eq_true rfl)
  rcases Nat.lt_or_ge x.length 1 with h1 | h1
  · unfold cutsOf; rw [if_pos (by rw [SS_len]; omega)]; simp
  · rw [cuts_len (by rw [SS_len]; exact h1), SS_len]; omega
theorem ints_app {vs : List Value} {ns : List Int} (h : IntsAre vs ns) {b : Int} {u : Tok} : IntsAre (vs ++ [.int b u]) (ns ++ [b]) := by
  induction h with
  | nil => exact .cons _ _ .nil
  | cons n t _ ih => exact .cons _ _ ih
theorem steps_ints {x : Str} {ys : List Value} {t u : Tok} (h : IntsAre ys (SS x)) : IntsAre (.int (2 * (SS x).getD (idx 0 (SS x).length) 0 - (SS x).getD (idx (Int.fmod 1 (x.length : Int)) (SS x).length) 0) t :: (ys ++ [.int (2 * (SS x).getD (idx (-1) (SS x).length) 0 - (SS x).getD (idx ((x.length : Int) - 2) (SS x).length) 0) u])) (stepsOf x) :=
  .cons _ _ (ints_app h)
def stepAt (x : Str) (k : Int) : Int := (stepsOf x).getD (idx k (stepsOf x).length) 0
theorem fdd2 (i : Nat) : ((1 : Int) + (i : Int)).fdiv 2 = ((i + 1) / 2 : Nat) ∧ ((1 : Int) + (i : Int) + 1).fdiv 2 = ((i + 2) / 2 : Nat) := by
  constructor
  · rw [Int.fdiv_eq_ediv_of_nonneg _ (by decide)]; omega
  · rw [Int.fdiv_eq_ediv_of_nonneg _ (by decide)]; omega
theorem ends_at (a b : Int) (ss : List Int) (j : Nat) : ([a] ++ ss ++ [b]).getD j 0 = if j = 0 then a else if j ≤ ss.length then ss.getD (j - 1) 0 else if j = ss.length + 1 then b else 0 := by
  cases j with
  | zero => rfl
  | succ j =>
    rw [if_neg (by omega)]
    show (ss ++ [b]).getD j 0 = _
    rw [List.getD_eq_getElem?_getD]
    split
    · rw [List.getElem?_append_left (by omega), List.getD_eq_getElem?_getD]; rfl
    · rename_i h
      rw [List.getElem?_append_right (by omega)]
      split
      · rw [show j - ss.length = 0 by omega]; rfl
      · rw [List.getElem?_eq_none (by simp; omega)]; rfl
theorem stepAt_nat {x : Str} (j : Nat) : stepAt x (j : Int) = if j = 0 then 2 * (SS x).getD (idx 0 (SS x).length) 0 - (SS x).getD (idx (Int.fmod 1 (x.length : Int)) (SS x).length) 0 else if j ≤ x.length then (SS x).getD (j - 1) 0 else if j = x.length + 1 then 2 * (SS x).getD (idx (-1) (SS x).length) 0 - (SS x).getD (idx ((x.length : Int) - 2) (SS x).length) 0 else 0 := by
  unfold stepAt stepsOf
  rw [ends_at]
  have e : ∀ n : Nat, idx (j : Int) n = j := by intro n; unfold idx; rw [if_neg (by omega)]; omega
  rw [e, SS_len]
theorem fm1' {n : Nat} (h : 2 ≤ n) : Int.fmod 1 (n : Int) = 1 := by
  rw [Int.fmod_eq_emod_of_nonneg _ (by omega)]
  exact Int.emod_eq_of_lt (by decide) (by omega)
theorem cut2_nat {ss : List Int} {t e : Int} {j : Nat} (hJ : cutJ ss.length t = ((j + 1 : Nat) : Int)) (he : t - 2 * ((j + 1 : Nat) : Int) = e) : cut2 ss t = ss.getD j 0 * (2 - e) + ss.getD (j + 1) 0 * e := by
  unfold cut2
  rw [hJ, he, show (((j + 1 : Nat) : Int) - 1).toNat = j by clear hJ he; omega, show ((j + 1 : Nat) : Int).toNat = j + 1 from rfl]
theorem half_e (k : Nat) : (2 * k + 1) / 2 = k ∧ (2 * k + 2) / 2 = k + 1 ∧ (1 + ((2 * k : Nat) : Int)) / 2 = (k : Int) := ⟨by omega, by omega, by omega⟩
theorem half_o (k : Nat) : (2 * k + 1 + 1) / 2 = k + 1 ∧ (2 * k + 1 + 2) / 2 = k + 1 ∧ (1 + ((2 * k + 1 : Nat) : Int)) / 2 = ((k + 1 : Nat) : Int) := ⟨by omega, by omega, by omega⟩
theorem cutJ_lo {n t : Int} (h : t / 2 < 1) : cutJ n t = ((0 + 1 : Nat) : Int) := if_pos h
theorem cutJ_mid {n t : Int} {j : Nat} (h : t / 2 = ((j + 1 : Nat) : Int)) (h2 : ((j + 1 : Nat) : Int) ≤ n - 1) : cutJ n t = ((j + 1 : Nat) : Int) := by
  unfold cutJ
  rw [h, if_neg (by clear h h2; omega), if_neg (by clear h; omega)]
theorem cutJ_hi {m : Nat} {t : Int} (h : t / 2 = ((m + 2 : Nat) : Int)) : cutJ ((m + 2 : Nat) : Int) t = ((m + 1 : Nat) : Int) := by
  unfold cutJ
  rw [h, if_neg (by clear h; omega), if_pos (by clear h; omega)]
  clear h
  omega
theorem cut_at {ss : List Int} (h : 2 ≤ ss.length) (i : Nat) (hi : i < 2 * ss.length + 1) {f : Nat → Int} (f0 : f 0 = 2 * ss.getD 0 0 - ss.getD 1 0) (f1 : ∀ j, j < ss.length → f (j + 1) = ss.getD j 0) (f2 : f (ss.length + 1) = 2 * ss.getD (ss.length - 1) 0 - ss.getD (ss.length - 2) 0) :
    f ((i + 1) / 2) + f ((i + 2) / 2) = cut2 ss (1 + (i : Int)) := by
  obtain ⟨m, hm⟩ : ∃ m, ss.length = m + 2 := ⟨ss.length - 2, by clear f0 f1 f2 hi; omega⟩
  rw [hm] at f2 hi
  have f1' : ∀ j, j < m + 2 → f (j + 1) = ss.getD j 0 := fun j hj => f1 j (by rw [hm]; exact hj)
  clear f1 h
  obtain ⟨k, e | e⟩ : ∃ k, i = 2 * k ∨ i = 2 * k + 1 := ⟨i / 2, by clear f0 f1' f2 hi hm; omega⟩
  · subst e
    obtain ⟨a, b, c⟩ := half_e k
    rw [a, b]
    cases k with
    | zero =>
      rw [cut2_nat (j := 0) (e := -1) (cutJ_lo (by rw [c]; decide)) (by decide), f0, f1' 0 (Nat.succ_pos _)]
      generalize ss.getD 0 0 = x
      generalize ss.getD (0 + 1) 0 = y
      clear a b c f0 f1' f2 hi hm
      omega
    | succ k =>
      have hk : k < m + 2 := by clear a b c f0 f1' f2 hm; omega
      rw [f1' k hk]
      rcases Nat.lt_or_ge k (m + 1) with hk2 | hk2
      · rw [cut2_nat (j := k) (e := 1) (cutJ_mid c (by rw [hm]; clear a b c f0 f1' f2 hm; omega)) (by clear a b c f0 f1' f2 hm; omega), f1' (k + 1) (Nat.succ_lt_succ hk2)]
        generalize ss.getD k 0 = x
        generalize ss.getD (k + 1) 0 = y
        clear a b c f0 f1' f2 hi hm hk hk2
        omega
      · have e : k = m + 1 := by clear a b c f0 f1' f2 hm hi; omega
        subst e
        rw [cut2_nat (j := m) (e := 3) (by rw [hm]; exact cutJ_hi c) (by clear a b c f0 f1' f2 hm; omega)]
        have f2' : f (m + 1 + 1 + 1) = 2 * ss.getD (m + 1) 0 - ss.getD m 0 := f2
        rw [f2']
        generalize ss.getD m 0 = x
        generalize ss.getD (m + 1) 0 = y
        clear a b c f0 f1' f2 f2' hi hm hk hk2
        omega
  · subst e
    obtain ⟨a, b, c⟩ := half_o k
    have hk : k < m + 2 := by clear a b c f0 f1' f2 hm; omega
    rw [a, b, f1' k hk]
    rcases Nat.lt_or_ge k (m + 1) with hk2 | hk2
    · rw [cut2_nat (j := k) (e := 0) (cutJ_mid c (by rw [hm]; clear a b c f0 f1' f2 hm; omega)) (by clear a b c f0 f1' f2 hm; omega)]
      generalize ss.getD k 0 = x
      generalize ss.getD (k + 1) 0 = y
      clear a b c f0 f1' f2 hi hm hk hk2
      omega
    · have e : k = m + 1 := by clear a b c f0 f1' f2 hm hi; omega
      subst e
      rw [cut2_nat (j := m) (e := 2) (by rw [hm]; exact cutJ_hi c) (by clear a b c f0 f1' f2 hm; omega)]
      generalize ss.getD m 0 = x
      generalize ss.getD (m + 1) 0 = y
      clear a b c f0 f1' f2 hi hm hk hk2
      omega
theorem cuts_eq {x : Str} (h : 1 ≤ x.length) : (List.range (2 * x.length + 1)).map (fun (i : Nat) => stepAt x (((1 : Int) + (i : Int)).fdiv 2) + stepAt x (((1 : Int) + (i : Int) + 1).fdiv 2)) = cutsOf (SS x) := by
  have e : ∀ i ∈ List.range (2 * x.length + 1), stepAt x (((1 : Int) + (i : Int)).fdiv 2) + stepAt x (((1 : Int) + (i : Int) + 1).fdiv 2) = stepAt x (((i + 1) / 2 : Nat) : Int) + stepAt x (((i + 2) / 2 : Nat) : Int) := by
    intro i _
    rw [(fdd2 i).1, (fdd2 i).2]
  rw [List.map_congr_left e]
  unfold cutsOf
  split
  · rename_i h2
    rw [SS_len] at h2
    have h1 : x.length = 1 := by omega
    have s0 := stepAt_nat (x := x) 0
    have s1 := stepAt_nat (x := x) 1
    have s2 := stepAt_nat (x := x) 2
    rw [if_pos rfl, SS_len, h1] at s0
    rw [if_neg (by decide), if_pos (by omega)] at s1
    rw [if_neg (by decide), if_neg (by omega), if_pos (by omega), SS_len, h1] at s2
    rw [show idx 0 1 = 0 by decide, show idx (Int.fmod 1 ((1 : Nat) : Int)) 1 = 0 by decide] at s0
    rw [show idx (-1) 1 = 0 by decide, show idx (((1 : Nat) : Int) - 2) 1 = 0 by decide] at s2
    rw [show (1 - 1 : Nat) = 0 by decide] at s1
    rw [h1]
    show [stepAt x ((0 : Nat) : Int) + stepAt x ((1 : Nat) : Int), stepAt x ((1 : Nat) : Int) + stepAt x ((1 : Nat) : Int), stepAt x ((1 : Nat) : Int) + stepAt x ((2 : Nat) : Int)] = [2 * (SS x).getD 0 0, 2 * (SS x).getD 0 0, 2 * (SS x).getD 0 0]
    rw [s0, s1, s2]
    congr 1
    · omega
    · congr 1
      · omega
      · congr 1
        omega
  · rename_i h2
    rw [SS_len] at h2
    unfold rangeKs
    rw [List.map_map, SS_len]
    refine List.map_congr_left fun i hi => ?_
    have hi := List.mem_range.mp hi
    have := cut_at (ss := SS x) (by rw [SS_len]; omega) i (by rw [SS_len]; exact hi) (f := fun j => stepAt x (j : Int)) ?_ ?_ ?_
    · exact this
    · show stepAt x ((0 : Nat) : Int) = _
      rw [stepAt_nat, if_pos rfl, SS_len, fm1' (by omega)]
      rw [show idx 0 x.length = 0 by unfold idx; rw [if_neg (by omega)]; rfl, show idx 1 x.length = 1 by unfold idx; rw [if_neg (by omega)]; rfl]
    · intro j h2
      rw [SS_len] at h2
      show stepAt x ((j + 1 : Nat) : Int) = _
      rw [stepAt_nat, if_neg (Nat.succ_ne_zero _), if_pos (Nat.succ_le_of_lt h2)]
      rfl
    · show stepAt x (((SS x).length + 1 : Nat) : Int) = _
      rw [SS_len, stepAt_nat, if_neg (by omega), if_neg (by omega), if_pos rfl, SS_len]
      rw [show idx (-1) x.length = x.length - 1 by unfold idx; rw [if_pos (by omega)]; omega, show idx ((x.length : Int) - 2) x.length = x.length - 2 by unfold idx; rw [if_neg (by omega)]; omega]
end Mine
end

section
open PySem PySem.W PySem.Calls PySem.Spec PyProof.Rows
namespace Mine
def tellsP (x : Str) (i : Nat) : Nat → Bool := fun j => decide (15 * (i : Int) - 30 < (WS x).getD (idx (j : Int) (WS x).length) 0)
def sign (x : Str) (j : Nat) : Str := ⟨#[x.cps.toList.getD j 0]⟩
def tells (x : Str) (i : Nat) : List Str := ((List.range x.length).filter (tellsP x i)).map (sign x)
theorem join_cps : ∀ l : List Str, (Str.join (Str.ofString "") l).cps.toList = (l.map fun s => s.cps.toList).flatten
  | [] => rfl
  | [a] => by
    show a.cps.toList = _
    simp
  | a :: b :: r => by
    show (a ++ Str.ofString "" ++ Str.join (Str.ofString "") (b :: r)).cps.toList = _
    rw [Str.cps_append, Str.cps_append, Array.toList_append, Array.toList_append, join_cps (b :: r)]
    have : (Str.ofString "").cps.toList = [] := by decide
    rw [this, List.append_nil]
    rfl
theorem zip_rng (a : List Nat) (b : List Int) (h : b.length = a.length) : a.zip b = (List.range a.length).map fun j => (a.getD j 0, b.getD j 0) := by
  apply List.ext_getElem
  · simp [h]
  · intro n h1 h2
    have ha : n < a.length := by simp at h1; omega
    have hb : n < b.length := by omega
    simp [List.getD_eq_getElem?_getD, List.getElem?_eq_getElem ha, List.getElem?_eq_getElem hb]
theorem idx_nat (j n : Nat) : idx (j : Int) n = j := by unfold idx; rw [if_neg (by omega)]; omega
theorem flat_one (f : Nat → Nat) : ∀ l : List Nat, l.flatMap (fun j => [f j]) = l.map f
  | [] => rfl
  | a :: l => by rw [List.flatMap_cons, flat_one f l]; rfl
theorem join_tells (x : Str) {i : Nat} (h : i < 4) : Str.join (Str.ofString "") (tells x i) = rds (i + 1) x := by
  rw [rds_eq]
  refine str_ext' ?_
  rw [join_cps]
  unfold tells
  rw [List.map_map]
  have e1 : ((fun s : Str => s.cps.toList) ∘ sign x) = fun j => [x.cps.toList.getD j 0] := rfl
  rw [e1, ← List.flatMap_def, flat_one, rdsL_eq _ i h, zip_rng _ _ (by rw [lv_len']; simp [ci]), List.filter_map, List.map_map]
  have e2 : x.cps.toList.length = x.length := Array.length_toList
  rw [e2]
  have e3 : (List.range x.length).filter (tellsP x i) = (List.range x.length).filter ((fun p : Nat × Int => decide ((i : Int) < p.2)) ∘ fun j => (x.cps.toList.getD j 0, (lv (ci x.cps.toList) 4 0).getD j 0)) := by
    refine List.filter_congr fun j hj => ?_
    have hj := List.mem_range.mp hj
    unfold tellsP
    rw [idx_nat, WS_at x j hj]
    exact decide_eq_decide.mpr (by show _ ↔ (i : Int) < (LV x).getD j 0; omega)
  rw [e3]
  rfl
theorem strs_of {x : Str} : ∀ {l : List Nat} {ys : List Value}, ys.length = l.length → (∀ (k : Nat) (y : Value), ys[k]? = some y → ∃ i, l[k]? = some i ∧ ∃ t, y = .str (sign x i) t) → StrsAre ys (l.map (sign x))
  | [], ys, hl, _ => by rw [List.length_eq_zero_iff.mp hl]; exact .nil
  | k :: l, [], hl, _ => by simp at hl
  | k :: l, y :: ys, hl, h => by
    obtain ⟨i, hi, t, rfl⟩ := h 0 y rfl
    have : k = i := by simpa using hi
    subst this
    exact .cons _ t (strs_of (l := l) (ys := ys) (by simpa using hl) fun n z hz => h (n + 1) z (by simpa using hz))
theorem tells_sum (x : Str) (i : Nat) : ((tells x i).map (·.length)).sum ≤ x.length ∧ (tells x i).length ≤ x.length := by
  have h1 : ∀ l : List Nat, ((l.map (sign x)).map (·.length)).sum = l.length := by
    intro l
    induction l with
    | nil => rfl
    | cons a l ih =>
      simp only [List.map_cons, List.sum_cons, List.length_cons, ih]
      have : (sign x a).length = 1 := rfl
      omega
  have h2 : ((List.range x.length).filter (tellsP x i)).length ≤ x.length := Nat.le_trans (List.length_filter_le _ _) (Nat.le_of_eq List.length_range)
  unfold tells
  rw [h1, List.length_map]
  exact ⟨h2, h2⟩
section
variable {prog : Program} {w : World} {A : Around} {E : Value → Shared → Prop} {s : Shared}
theorem join_rds {x : Str} {i : Nat} {D : Addr} {ys : List Value} {t : Tok} {Q : Value → Shared → Prop} (h4 : i < 4) (hi : StrsAre ys (tells x i)) (hl : s.heap.IsList D ys.toArray) (h60 : x.length ≤ 60)
    (h : ∀ t' k, Q (.str (rds (i + 1) x) t') { s with toks := k }) : wpAny (model prog w) A (call (.builtin "str.join") [.str (Str.ofString "") t, .ref D]) Q E s := by
  refine join_listC hl hi (Nat.le_of_ble_eq_true rfl) ?_ ?_
  · have := tells_sum x i
    omega
  · have e : Txt.join (Str.ofString "") (tells x i) = rds (i + 1) x := (StrLaws.glued_eq_join _ _).trans (join_tells x h4)
    rw [e]; exact h
theorem item_sign {value slice : Expr} {x : Str} {t u : Tok} {k : Nat} {Q : Value → Shared → Prop} (hk : k < x.length) (hx : x.length ≤ 100)
    (h : ∀ t' tk, Q (.str (sign x k) t') { s with toks := tk })
    (hs : subscripted slice false (.str x t) (.int (k : Int) u) = operate [.str x t, .int (k : Int) u] (getItem (.str x t) (.int (k : Int) u)) := by with_unfolding_all rfl)
    (ht : ∀ r, letTemporaryGo value (.str x t) r = pure () := by intro _; with_unfolding_all rfl) :
    wpAny (model prog w) A (subscriptTail value slice (.str x t) (.int (k : Int) u)) Q E s := by
  refine PyProof.Rows.item_str (fitsSsize_of (N := 9223372036854775808) (by omega) (by omega) (Int.le_refl _)) (by omega) (by omega) (fun _ => ?_) hs ht
  have hi : k < x.cps.toList.length := by rw [Array.length_toList]; exact hk
  have e : x.cps[(k : Int).toNat]? = some (x.cps.toList.getD k 0) := by
    rw [← Array.getElem?_toList, show (k : Int).toNat = k by omega, List.getD_eq_getElem?_getD, List.getElem?_eq_getElem hi]; rfl
  have := StrLaws.at_nonneg (by omega : 0 ≤ (k : Int)) e
  have e2 : Txt.item x (k : Int) = sign x k := by
    unfold Txt.item Txt.charAt
    rw [this]
    rfl
  rw [e2]
  exact h _ _
end
/-- what is told, and what is told again -/
theorem told_pair {x : Str} {t1 t2 t3 t4 : Tok} {ys : List Value} (hl : ys.length = 4) (hr : ∀ (i : Nat) (y : Value), ys[i]? = some y → ∃ t, y = .str (rds (i + 1) x) t) : PairEq [.str (rd x) t1, .str (rd (rd x)) t2, .str (rd (rd (rd x))) t3, .str (rd (rd (rd (rd x)))) t4] ys := by
  match ys, hl with
  | [a, b, c, d], _ =>
    obtain ⟨u1, rfl⟩ := hr 0 a rfl
    obtain ⟨u2, rfl⟩ := hr 1 b rfl
    obtain ⟨u3, rfl⟩ := hr 2 c rfl
    obtain ⟨u4, rfl⟩ := hr 3 d rfl
    exact .cons (eqGives_ss rfl) (.cons (eqGives_ss rfl) (.cons (eqGives_ss rfl) (.cons (eqGives_ss rfl) .nil)))
end Mine
end

section
open PySem PySem.W PySem.Calls PySem.Spec PyProof.Rows
namespace Mine
structure MarkA : Prop where mk ::
theorem ne_cell {h₀ h : Heap} {L a c : Addr} {o oc : Obj} {news : List (Addr × Obj)} {its : Array Value} {n : Nat} {v : Option Value} (N : News h₀ L h news) (h1 : (a, o) ∈ news) (h2 : (c, oc) ∈ news) (hs : o.data = .seq its n) (hc : oc.data = .cell v) : a ≠ c := by
  intro e
  subst e
  have e : o = oc := Option.some.inj ((N _ h1).1.symm.trans (N _ h2).1)
  subst e
  rw [hs] at hc; cases hc
theorem ints_of {f : Nat → Int} : ∀ {n : Nat} {ys : List Value}, ys.length = n → (∀ (i : Nat) (y : Value), ys[i]? = some y → ∃ t, y = .int (f i) t) → IntsAre ys ((List.range n).map f) := by
  intro n
  induction n generalizing f with
  | zero => intro ys hl _; rw [List.length_eq_zero_iff.mp hl]; exact .nil
  | succ n ih =>
    intro ys hl hr
    cases ys with
    | nil => simp at hl
    | cons y ys =>
      obtain ⟨t, rfl⟩ := hr 0 y rfl
      rw [List.range_succ_eq_map, List.map_cons, List.map_map]
      exact .cons _ t (ih (f := fun i => f (i + 1)) (by simpa using hl) fun i z hz => hr (i + 1) z (by simpa using hz))
local macro_rules | `(tactic| walk_at "call ref") => `(tactic| ((with_reducible rename MarkA => mq9); refine stop_out ?_))
local macro_rules | `(tactic| walk_at "eval ListComp") => `(tactic| ((with_reducible rename MarkA => mq9); refine stop_out ?_))
local macro_rules | `(tactic| walk_at "exec Assign cons ListComp") => `(tactic| ((with_reducible rename MarkA => mq9); k_dflt (first | refine wpAny_Assign_Name ?_ | refine stop_out ?_)))
local macro_rules | `(tactic| walk_at "CompSrc") => `(tactic| ((with_reducible rename MarkA => mq9); refine stop_out ?_))
local macro_rules | `(tactic| walk_at "CompSrcT") => `(tactic| ((with_reducible rename MarkA => mq9); refine stop_out ?_))
local macro_rules | `(tactic| walk_at "compareOp NotEq ref ref") => `(tactic| ((with_reducible rename MarkA => mq9); refine stop_out ?_))
local macro_rules | `(tactic| walk_at "compareOp Eq ref ref") => `(tactic| ((with_reducible rename MarkA => mq9); refine stop_out ?_))
local macro_rules | `(tactic| walk_at "ElEnd") => `(tactic| (k_dflt (refine' elEnd_of (by k_asm) (by k_asm) ?hs ?_; (case hs => first | exact fun _ hp => hp | (intro p hp; first | exact List.mem_cons_of_mem _ hp | exact List.mem_cons_of_mem _ (List.mem_cons_of_mem _ hp))))))
local macro_rules | `(tactic| walk_at "TstEnd") => `(tactic| (k_dflt (refine' tstEnd_of (by k_asm) (by k_asm) ?hs ?_; (case hs => first | exact fun _ hp => hp | (intro p hp; first | exact List.mem_cons_of_mem _ hp | exact List.mem_cons_of_mem _ (List.mem_cons_of_mem _ hp))))))
local macro_rules | `(tactic| k_ne) => `(tactic| first | (with_reducible assumption) | (refine ne_cell (by with_reducible assumption) (by k_mem) (by k_mem) rfl (by with_reducible assumption)) | (intro e; cases e; done))
local macro_rules | `(tactic| walk_at "MINE call") => `(tactic| ((case k1 => k_asm); (case k2 => k_asm); (case k3 => k_asm); (case k4 => k_asm); (case k5 => k_asm); (case kK => first | exact rfl | assumption); (case kd => ktr_room); (case ku => ktr_units)))
local macro_rules | `(tactic| walk_at "MINE comp") => `(tactic| (refine LCg.ListComp_U (F₀ := by k_asm) (by with_unfolding_all rfl) (by decide) (by rfl) (by decide) (by rfl) ?_))
local macro_rules | `(tactic| walk_at "MINE compT") => `(tactic| (refine LCt.ListComp_T (F₀ := by k_asm) (by with_unfolding_all rfl) (by decide) (by rfl) (by decide) (by rfl) ?_))

local macro_rules | `(tactic| walk_at "binaryOp Mult int int") => `(tactic| (k_here; k_dflt (refine' PyProof.Rows.mul_int ?_ (mulok_small (by first | decide | omega)); k_whole)))
local macro_rules | `(tactic| walk_at "MINE ne") => `(tactic| (refine' ne_lists ?ka ?kb ?kc ?kd ?ke; (case ka => exact isl (by assumption) (by k_mem)); (case kb => exact isl (by assumption) (by k_mem)); (case kd => ktr_units)))
local macro_rules | `(tactic| walk_at "call builtin:len") => `(tactic| (k_here; (with_reducible rename (Array.size _ = cntL _ _) => hc9); k_dflt (refine len_cnt hc9 (isl (by assumption) (by k_mem)) ?_); clear hc9; (try dsimp only); (try k_fold)))
local macro_rules | `(tactic| walk_at "MINE item") => `(tactic| ((with_reducible rename MarkA => mq9); k_here; k_dflt (refine item_is (isl (by assumption) (by k_mem)) (by first | assumption | exact steps_ints (by assumption)) (by (try simp only [SS_len, WS_len, steps_len]); omega) (by (try simp only [SS_len, WS_len, steps_len]); omega) (by (try simp only [SS_len, WS_len, steps_len]); omega) ?_); intro t9; (try dsimp only); (try k_fold)))
local macro_rules | `(tactic| walk_at "subscriptTail Name Constant ref int") => `(tactic| walk_at "MINE item")
local macro_rules | `(tactic| walk_at "subscriptTail Name BinOp ref int") => `(tactic| walk_at "MINE item")
local macro_rules | `(tactic| walk_at "subscriptTail Name UnaryOp ref int") => `(tactic| walk_at "MINE item")
local macro_rules | `(tactic| walk_at "subscriptTail Name Name ref int") => `(tactic| walk_at "MINE item")
local macro_rules | `(tactic| walk_at "subscriptTail Name Name str int") => `(tactic| ((with_reducible rename MarkA => mq9); k_here; k_dflt (refine item_sign (by assumption) (by assumption) ?_); intro t9 tk9; (try dsimp only); (try k_fold)))
local macro_rules | `(tactic| walk_at "call builtin:str.join") => `(tactic| ((with_reducible rename StrsAre _ _ => hs9); k_here; k_dflt (refine join_rds (by assumption) hs9 (isl (by assumption) (by k_mem)) (by assumption) ?_); intro t9 tk9; (try dsimp only); (try k_fold)))
theorem told_at {x : Str} {t1 t2 t3 t4 : Tok} {i : Nat} {v : Value} (h : (#[.str (rd x) t1, .str (rd (rd x)) t2, .str (rd (rd (rd x))) t3, .str (rd (rd (rd (rd x)))) t4] : Array Value)[i]? = some v) : ∃ t, v = .str (rds (i + 1) x) t ∧ i < 4 := by
  match i, h with
  | 0, h => exact ⟨t1, (Option.some.inj h).symm, by omega⟩
  | 1, h => exact ⟨t2, (Option.some.inj h).symm, by omega⟩
  | 2, h => exact ⟨t3, (Option.some.inj h).symm, by omega⟩
  | 3, h => exact ⟨t4, (Option.some.inj h).symm, by omega⟩
  | i + 4, h => simp at h

theorem agree_spec {w : World} {mean : ExcName → Option Value} {mg mb : Str → Option Value} {x : Str} {t : Tok} (h1 : 1 ≤ x.length) (h60 : x.length ≤ 60) :
    Tells1 PySem.Challenge.rw_rw0061_01.row.prog w (Mine.hd.heap_39 w.params) topProg (looseW Mine.hd.view_39 [Str.ofString "fmean", Str.ofString "quantiles"] ++ (recsOf Mine.hd.view_39).map (·.name) ++ (litsOf Mine.hd.view_39).map (·.1) ++ (clssOf Mine.hd.view_39 (looseW Mine.hd.view_39 [Str.ofString "fmean", Str.ofString "quantiles"])).map (·.name)) mean mg mb 164 [.str x t] (fun _ => True) 12 120 (fun v nw => nw = [] ∧ v = .bool true) := by
  k_with_none
  w_top off
  k_fill
  unfold Tells1
  intro dp un gd cn cs a ccd cl outer A₀ base h₀ L m news s Q E B F X N T hk hpre hd hu hret
  have hx : x.length ≤ 100 := by omega
  have mq : MarkA := ⟨⟩
  refine wpAny_call ?_
  k_dflt ((refine' code_pureC ?k1 ?k2 ?k3 ?k5 ?kA ?kF ?kK ?k6 ?k7 ?k8 ?k9 ?kB ?kD ?_ ?c2 ?c3 ?c4; (case kA => exact rfl); (case kF => exact rfl); (case kK => assumption); (case k1 => k_asm); (case k2 => k_asm); (case k3 => k_asm); (case k5 => k_asm); (case k6 => k_is); (case k7 => k_is); (case k8 => ktr_room); (case k9 => first | exact BindsTo.of_eq rfl | exact binds_K (by k_in) rfl (by k_is) rfl rfl rfl); (case kB => exact rfl); (case kD => decide +kernel); (case c2 => exact rfl); (case c3 => exact rfl); (case c4 => exact rfl); k_whole; intro g' L' h' tk' cells' hg' F' N' Y' B' X' T'; k_cells Y'; (try simp only [List.cons_append, List.nil_append] at N'); (try dsimp only); (try k_lift B'); (try k_fold)))
  k_steps
  refine stop_in ?_
  refine' use1 (lives_spec hx) ?k1 ?k2 ?k3 ?k4 ?k5 ?kK ?kp ?kd ?ku ?_
  walk_at "MINE call"
  case kp => exact trivial
  intro v9 nw9 h9 tk9 F9 N9 kp9 hne9 ho9
  obtain ⟨lL, vL, cL, rfl, rfl, hiL⟩ := ho9
  replace hiL : IntsAre vL (LV x) := hiL
  clear kp9 hne9
  simp only [List.cons_append, List.nil_append] at N9
  dsimp only
  try k_fold
  k_steps
  refine stop_in ?_
  refine' use1 (readings_spec hx) ?k1 ?k2 ?k3 ?k4 ?k5 ?kK ?kp ?kd ?ku ?_
  walk_at "MINE call"
  case kp => exact trivial
  intro v9 nw9 h9 tk9 F9 N9 kp9 hne9 ho9
  obtain ⟨lT, t1, t2, t3, t4, cT, rfl, rfl⟩ := ho9
  clear kp9 hne9
  simp only [List.cons_append, List.nil_append] at N9
  dsimp only
  try k_fold
  k_steps
  refine stop_in ?_
  walk_at "MINE comp"
  k_steps
  refine stop_in ?_
  refine LCg.CompSrc.ledger rfl (by k_asm) (by k_asm) (by k_mem) (Nat.le_of_ble_eq_true rfl) ?_
  intro g9
  refine each_rest (fun i y => ∃ t, y = .int (leftAt x i) t) (.inr ⟨_, by k_mem, rfl, _, rfl⟩) ?_ ?_
  · intro i v I oI C oC D m₂ ys h tk E' hin hv hC hx9 F9 N9
    obtain ⟨ty, rfl, hi4⟩ := told_at hv
    have hlen : (rds (i + 1) x).length ≤ 100 := Nat.le_trans (rds_le x _) hx
    k_steps
  intro ys hl hr
  have hiF : IntsAre ys (LF x) := ints_of hl hr
  clear hr
  intro D9 h9 tk9 F9 N9 off9
  clear off9
  k_steps
  refine stop_in ?_
  refine' use1 (fmean_spec (q := 4 * (LF x).sum) hiF (LF_0 x) (LF_500 x) (sum_small (LF_small h60) (LF_500 x)) (ent_small (LF_small h60)) (by rw [LF_len]; omega)) ?k1 ?k2 ?k3 ?k4 ?k5 ?kK ?kp ?kd ?ku ?_
  walk_at "MINE call"
  case kp => exact isl (by assumption) (by k_mem)
  intro v9 nw9 h9 tk9 F9 N9 kp9 hne9 ho9
  obtain ⟨rfl, r1, tr1, rfl, hr1⟩ := ho9
  clear kp9 hne9
  simp only [List.cons_append, List.nil_append] at N9
  dsimp only
  try k_fold
  k_steps
  refine stop_in ?_
  walk_at "MINE comp"
  k_steps
  refine stop_in ?_
  refine LCg.CompSrc.ledger rfl (by k_asm) (by k_asm) (by k_mem) (lsz hiL (by rw [LV_len]; exact h60)) ?_
  intro g9
  refine each_rest (fun i y => ∃ t, y = .int ((x.length : Int) * (LV x).getD i 0) t) (.inr ⟨_, by k_mem, rfl, _, rfl⟩) ?_ ?_
  · intro i v I oI C oC D m₂ ys h tk E' hin hv hC hx9 F9 N9
    obtain ⟨tv, rfl⟩ := int_getD hiL hv
    k_steps
  intro ys hl hr
  have hiSL := ints_map (f := fun v => (x.length : Int) * v) hiL hl hr
  clear hr
  intro D9 h9 tk9 F9 N9 off9
  clear off9
  k_steps
  refine stop_in ?_
  refine' use1 (fmean_spec (q := 16 * (LV x).sum) hiSL (by rw [List.length_map, LV_len]; omega) (by rw [List.length_map, LV_len]; omega) (sum_small (SL_small h60) (by rw [List.length_map, LV_len]; omega)) (ent_small (SL_small h60)) (by rw [map_sum_mul, List.length_map, LV_len]; generalize (LV x).sum = S; generalize (x.length : Int) = n; grind)) ?k1 ?k2 ?k3 ?k4 ?k5 ?kK ?kp ?kd ?ku ?_
  walk_at "MINE call"
  case kp => exact isl (by assumption) (by k_mem)
  intro v9 nw9 h9 tk9 F9 N9 kp9 hne9 ho9
  obtain ⟨rfl, r2, tr2, rfl, hr2⟩ := ho9
  clear kp9 hne9
  simp only [List.cons_append, List.nil_append] at N9
  dsimp only
  try k_fold
  k_steps
  refine stop_in ?_
  walk_at "MINE ne"
  case kc =>
    have e1 := LF_sum x
    have e2 := sum_rng (LF_small h60)
    have e3 := LF_len x
    exact .cons (eqGives_fi (fv_mulr (fv_ofInt (by decide)) hr1 (by omega)) (by omega)) (.cons (eqGives_fi hr2 (by omega)) .nil)
  dsimp only
  try k_fold
  k_steps
  refine stop_in ?_
  have hdot := dot_eq x
  have hdots := dot_small h60
  refine' use1 (fmeanw_spec (as := [(x.length : Int)] ++ LF x) (bs := [1, 1, 2, 4, 8]) (q := (PW x).sum) (by assumption) W5 rfl (Nat.le_of_ble_eq_true rfl) (SLF_small h60) (by decide) (sum_small (by decide) (by decide)) (by decide) (by decide) (Nat.lt_trans hdots (by decide)) (by show 16 * dotI ((x.length : Int) :: LF x) [1, 1, 2, 4, 8] = (PW x).sum * 16; rw [hdot]; omega) (by rw [← hdot]; exact Nat.lt_trans hdots (by decide))) ?k1 ?k2 ?k3 ?k4 ?k5 ?kK ?kp ?kd ?ku ?_
  walk_at "MINE call"
  case kp => exact ⟨isl (by assumption) (by k_mem), isl (by assumption) (by k_mem)⟩
  intro v9 nw9 h9 tk9 F9 N9 kp9 hne9 ho9
  obtain ⟨rfl, r3, tr3, rfl, hr3⟩ := ho9
  clear kp9 hne9
  simp only [List.cons_append, List.nil_append] at N9
  dsimp only
  try k_fold
  k_steps
  refine stop_in ?_
  walk_at "MINE comp"
  k_steps
  refine stop_in ?_
  refine LCg.CompSrc.ledger rfl (by k_asm) (by k_asm) (by k_mem) (lsz hiL (by rw [LV_len]; exact h60)) ?_
  intro g9
  refine each_rest (fun i y => ∃ t, y = .int (2 ^ ((LV x).getD i 0).toNat) t) (.inr ⟨_, by k_mem, rfl, _, rfl⟩) ?_ ?_
  · intro i v I oI C oC D m₂ ys h tk E' hin hv hC hx9 F9 N9
    obtain ⟨tv, rfl⟩ := int_getD hiL hv
    have hat := (LV_at (x := x) i).1
    have hat4 := (LV_at (x := x) i).2
    k_steps
  intro ys hl hr
  have hiPW : IntsAre ys (PW x) := ints_map (f := fun v => 2 ^ v.toNat) hiL hl hr
  clear hr
  intro D9 h9 tk9 F9 N9 off9
  clear off9
  have hcmp := cmp_no (n := (PW x).sum) (fv_mulr (fv_ofInt (n := 16) (by decide)) hr3 (by rw [← hdot]; omega))
  k_steps
  · exact absurd ‹(Float64.cmpInt (Float64.mul (Float64.ofInt 16) r3) (PW x).sum != some Ordering.eq) = true› (by rw [hcmp]; decide)
  refine stop_in ?_
  walk_at "MINE comp"
  k_steps
  refine stop_in ?_
  refine LCg.CompSrc.ledger rfl (by k_asm) (by k_asm) (by k_mem) (lsz hiL (by rw [LV_len]; exact h60)) ?_
  intro g9
  refine each_rest (fun i y => ∃ t, y = .int (15 * (LV x).getD i 0 - 30) t) (.inr ⟨_, by k_mem, rfl, _, rfl⟩) ?_ ?_
  · intro i v I oI C oC D m₂ ys h tk E' hin hv hC hx9 F9 N9
    obtain ⟨tv, rfl⟩ := int_getD hiL hv
    k_steps
  intro ys hl hr
  have hiW : IntsAre ys (WS x) := ints_map (f := fun v => 15 * v - 30) hiL hl hr
  clear hr
  intro D9 h9 tk9 F9 N9 off9
  clear off9
  k_steps
  refine stop_in ?_
  walk_at "MINE compT"
  k_steps
  refine stop_in ?_
  refine LCt.CompSrcT.ledger rfl (by k_asm) (by k_asm) (by k_mem) (lsz hiF (Nat.le_of_ble_eq_true rfl)) ?_
  intro g9
  refine each_restT (fun i => decide ((x.length : Int) < 2 * (LF x).getD i 0)) (fun _ _ => True) (.inr ⟨_, by k_mem, rfl, _, rfl⟩) ?_ ?_ ?_
  · intro i v I oI C oC D m₂ ys h tk E' hin hv hC hx9 F9 N9
    obtain ⟨tv, rfl⟩ := int_getD hiF hv
    k_steps
  · intro i v I oI C oC D m₂ ys h tk E' hin hp9 hv hC hx9 F9 N9
    obtain ⟨tv, rfl⟩ := int_getD hiF hv
    k_steps
    exact trivial
  intro ys hl hr
  have hcG := cnt_of (p := fun v => decide ((x.length : Int) < 2 * v)) hiF hl
  clear hr hl
  intro D9 h9 tk9 F9 N9 off9
  clear off9
  k_steps
  refine stop_in ?_
  walk_at "MINE compT"
  k_steps
  refine stop_in ?_
  refine LCt.CompSrcT.ledger rfl (by k_asm) (by k_asm) (by k_mem) (lsz hiF (Nat.le_of_ble_eq_true rfl)) ?_
  intro g9
  refine each_restT (fun i => decide ((x.length : Int) ≤ 2 * (LF x).getD i 0)) (fun _ _ => True) (.inr ⟨_, by k_mem, rfl, _, rfl⟩) ?_ ?_ ?_
  · intro i v I oI C oC D m₂ ys h tk E' hin hv hC hx9 F9 N9
    obtain ⟨tv, rfl⟩ := int_getD hiF hv
    k_steps
  · intro i v I oI C oC D m₂ ys h tk E' hin hp9 hv hC hx9 F9 N9
    obtain ⟨tv, rfl⟩ := int_getD hiF hv
    k_steps
    exact trivial
  intro ys hl hr
  have hcG := cnt_of (p := fun v => decide ((x.length : Int) ≤ 2 * v)) hiF hl
  clear hr hl
  intro D9 h9 tk9 F9 N9 off9
  clear off9
  k_steps
  refine stop_in ?_
  refine' use1 (mlow_spec hiW (by rw [WS_len]; exact h1) (by rw [WS_len]; omega) SS_perm SS_sorted) ?k1 ?k2 ?k3 ?k4 ?k5 ?kK ?kp ?kd ?ku ?_
  walk_at "MINE call"
  case kp => exact isl (by assumption) (by k_mem)
  intro v9 nw9 h9 tk9 F9 N9 kp9 hne9 ho9
  obtain ⟨rfl, tm1, rfl⟩ := ho9
  rw [SS_low h1]
  clear kp9 hne9
  simp only [List.cons_append, List.nil_append] at N9
  dsimp only
  try k_fold
  k_steps
  refine stop_in ?_
  refine' use1 (median_spec hiW (by rw [WS_len]; exact h1) (by rw [WS_len]; omega) SS_perm SS_sorted (WS_small x)) ?k1 ?k2 ?k3 ?k4 ?k5 ?kK ?kp ?kd ?ku ?_
  walk_at "MINE call"
  case kp => exact isl (by assumption) (by k_mem)
  intro vm nw9 h9 tk9 F9 N9 kp9 hne9 ho9
  obtain ⟨rfl, hmid⟩ := ho9
  rw [SS_low h1, SS_high h1, WS_len] at hmid
  clear kp9 hne9
  simp only [List.cons_append, List.nil_append] at N9
  dsimp only
  try k_fold
  k_steps
  refine stop_in ?_
  refine' use1 (mhigh_spec hiW (by rw [WS_len]; exact h1) (by rw [WS_len]; omega) SS_perm SS_sorted) ?k1 ?k2 ?k3 ?k4 ?k5 ?kK ?kp ?kd ?ku ?_
  walk_at "MINE call"
  case kp => exact isl (by assumption) (by k_mem)
  intro v9 nw9 h9 tk9 F9 N9 kp9 hne9 ho9
  obtain ⟨rfl, tm3, rfl⟩ := ho9
  rw [SS_high h1]
  clear kp9 hne9
  simp only [List.cons_append, List.nil_append] at N9
  dsimp only
  try k_fold
  k_steps
  refine stop_in ?_
  walk_at "MINE comp"
  k_steps
  refine stop_in ?_
  refine LCg.CompSrc.ledger rfl (by k_asm) (by k_asm) (by k_mem) (Nat.le_of_ble_eq_true rfl) ?_
  intro g9
  refine each_rest (fun i y => NumIs y ((mids x).getD i 0)) (.inr ⟨_, by k_mem, rfl, _, rfl⟩) ?_ ?_
  · intro i v I oI C oC D m₂ ys h tk E' hin hv hC hx9 F9 N9
    rcases mid_at hmid hv with ⟨kv, tv, rfl, hk1, hk2⟩ | ⟨rv, tv, rfl, hk1, hk2⟩
    · k_steps
      exact .int _ _ rfl hk1
    · k_steps
      exact .flt _ _ rfl (by
        have e := fv_mulr (fv_ofInt (n := 2) (by decide)) hk1 (by omega)
        have e2 : (2 : Int) * (8 * (mids x).getD i 0) = 16 * (mids x).getD i 0 := by omega
        rw [e2] at e; exact e)
  intro ys hl hr
  have hnum : NumsAre ys (mids x) := nums_of hl hr
  clear hr
  intro D9 h9 tk9 F9 N9 off9
  clear off9
  k_steps
  refine stop_in ?_
  walk_at "MINE ne"
  case kc => exact NumsAre.pair hnum (.cons _ _ (.cons _ _ (.cons _ _ .nil)))
  dsimp only
  try k_fold
  k_steps
  refine stop_in ?_
  walk_at "MINE comp"
  k_steps
  refine stop_in ?_
  refine LCg.CompSrc.ledger rfl (by k_asm) (by k_asm) (by k_mem) (Nat.le_of_ble_eq_true rfl) ?_
  intro g9
  refine each_rest (fun i y => y = .bool ((bools x).getD i false)) (.inr ⟨_, by k_mem, rfl, _, rfl⟩) ?_ ?_
  · intro i v I oI C oC D m₂ ys h tk E' hin hv hC hx9 F9 N9
    rcases midk_at hmid hv with ⟨kv, tv, rfl, hk1⟩ | ⟨rv, tv, rfl, hk1⟩
    · rw [hk1]
      k_steps
    · rw [hk1]
      k_steps
  intro ys hl hr
  intro D9 h9 tk9 F9 N9 off9
  clear off9
  k_steps
  refine stop_in ?_
  walk_at "MINE ne"
  case kc => exact bools_pair hl hr
  clear hr
  dsimp only
  try k_fold
  k_steps
  refine stop_in ?_
  refine Assign_ListComp_K (F₀ := by k_asm) rfl (by with_unfolding_all rfl) (by with_unfolding_all rfl) (by rfl) (by decide) (by rfl) (fun _ _ => by with_unfolding_all rfl) (fun _ => by with_unfolding_all rfl) (by with_unfolding_all rfl) (by with_unfolding_all rfl) ?_
  k_steps
  refine compSrcK (n := x.length) (fun i y => ∃ t, y = .int (15 * (cntL x (fun v => decide ((x.length : Int) - (i : Int) ≤ v)) : Int) - 30) t) rfl (by k_asm) (by k_asm) (by assumption) (small_one (by decide) (by decide) (by omega) (by omega)) (by rw [PyProof.Rows.rangeSize_nat]; omega) (Nat.le_trans h60 (Nat.le_of_ble_eq_true rfl)) ?_ ?_
  · intro i ti I oI C oC D K oK ys h tk E' hin hoK hF9 hN9
    rw [Int.zero_add] at hoK
    k_steps
    refine stop_in ?_
    walk_at "MINE compT"
    k_steps
    refine stop_in ?_
    refine LCt.CompSrcT.ledger rfl (by k_asm) (by k_asm) (by k_mem) (lsz hiF (Nat.le_of_ble_eq_true rfl)) ?_
    intro g9
    refine each_restT (fun j => decide ((x.length : Int) - (i : Int) ≤ (LF x).getD j 0)) (fun _ _ => True) (.inr ⟨_, by k_mem, rfl, _, rfl⟩) ?_ ?_ ?_
    · intro j v I oI C oC D m₂ ys h tk E' hjn hv hC hx9 F9 N9
      obtain ⟨tv, rfl⟩ := int_getD hiF hv
      k_steps
    · intro j v I oI C oC D m₂ ys h tk E' hjn hp9 hv hC hx9 F9 N9
      obtain ⟨tv, rfl⟩ := int_getD hiF hv
      k_steps
      exact trivial
    intro ys hl hr
    have hcG := cnt_of (p := fun v => decide ((x.length : Int) - (i : Int) ≤ v)) hiF hl
    clear hr hl
    intro D9 h9 tk9 F9 N9 off9
    clear off9
    k_steps
  intro ys hl hr
  have hiR : IntsAre ys (SS x) := ints_of hl hr
  obtain ⟨hfa, hfb⟩ := fm1 h1
  clear hr
  intro D9 h9 tk9 F9 N9 off9
  clear off9
  k_steps
  refine stop_in ?_
  walk_at "MINE comp"
  k_steps
  refine stop_in ?_
  refine' useK (quant_spec hiW (by rw [WS_len]; exact h1) (by rw [WS_len]; omega) SS_perm SS_sorted (WS_small x) (by rw [WS_len])) ?k1 ?k2 ?k3 ?k4 ?k5 ?kK ?kp ?kd ?ku ?_
  walk_at "MINE call"
  case kp => exact isl (by assumption) (by k_mem)
  intro v9 nw9 h9 tk9 F9 N9 kp9 hne9 ho9
  obtain ⟨lC, vC, cC, rfl, rfl, hiC⟩ := ho9
  clear kp9 hne9
  simp only [List.cons_append, List.nil_append] at N9
  dsimp only
  try k_fold
  k_steps
  refine stop_in ?_
  refine LCg.CompSrc.ledger rfl (by k_asm) (by k_asm) (by k_mem) (halves_sz hiC h60) ?_
  intro g9
  refine each_rest (fun i y => NumIs y ((cutsOf (SS x)).getD i 0)) (.inr ⟨_, by k_mem, rfl, _, rfl⟩) ?_ ?_
  · intro i v I oI C oC D m₂ ys h tk E' hin hv hC hx9 F9 N9
    have hcb := cuts_b (x := x) i
    rcases halves_at hiC hv with ⟨kv, tv, rfl, hk1⟩ | ⟨rv, tv, rfl, hk1⟩
    · k_steps
      exact .int _ _ rfl hk1
    · k_steps
      exact .flt _ _ rfl (by
        have e := fv_mulr (fv_ofInt (n := 2) (by decide)) hk1 (by omega)
        have e2 : (2 : Int) * (8 * (cutsOf (SS x)).getD i 0) = 16 * (cutsOf (SS x)).getD i 0 := by omega
        rw [e2] at e; exact e)
  intro ys hl hr
  have hcuts : NumsAre ys (cutsOf (SS x)) := nums_of (by rw [hl, List.size_toArray, hiC.length]) hr
  clear hr
  intro D9 h9 tk9 F9 N9 off9
  clear off9
  k_steps
  refine stop_in ?_
  walk_at "MINE comp"
  k_steps
  refine stop_in ?_
  refine LCg.CompSrc.range (n := 2 * x.length + 1) rfl (by k_asm) (by k_asm) (by assumption) (small_one (by decide) (by decide) (by omega) (by omega)) (by rw [PyProof.Rows.rangeSize_nat]; omega) (Nat.le_trans (m := 200) (by omega) (Nat.le_of_ble_eq_true rfl)) ?_
  intro g9
  refine each_rest (fun i y => ∃ t, y = .int (stepAt x (((1 : Int) + (i : Int)).fdiv 2) + stepAt x (((1 : Int) + (i : Int) + 1).fdiv 2)) t) trivial ?_ ?_
  · intro i v I oI C oC D m₂ ys h tk E' hin hv hC hx9 F9 N9
    obtain ⟨tv, rfl⟩ := hv
    obtain ⟨hfd1, hfd2⟩ := fdd2 i
    k_steps
  intro ys hl hr
  have hsteps := ints_of hl hr
  rw [cuts_eq h1] at hsteps
  clear hr
  intro D9 h9 tk9 F9 N9 off9
  clear off9
  k_steps
  refine stop_in ?_
  walk_at "MINE ne"
  case kc => exact NumsAre.pair hcuts hsteps
  dsimp only
  try k_fold
  k_steps
  refine stop_in ?_
  refine ListComp_K (F₀ := by k_asm) (by with_unfolding_all rfl) (by rfl) (by decide) (by rfl) (fun _ _ => by with_unfolding_all rfl) (fun _ => by with_unfolding_all rfl) ?_
  k_steps
  refine compSrcK (n := 4) (fun i y => ∃ t, y = .str (rds (i + 1) x) t) rfl (by k_asm) (by k_asm) (by assumption) (small_one (by decide) (by decide) (by decide) (by decide)) (by rw [PyProof.Rows.rangeSize_nat]; rfl) (Nat.le_of_ble_eq_true rfl) ?_ ?_
  · intro i ti I oI C oC D K oK ys h tk E' hin hoK hF9 hN9
    rw [Int.zero_add] at hoK
    k_steps
    refine stop_in ?_
    walk_at "MINE compT"
    k_steps
    refine stop_in ?_
    refine LCt.CompSrcT.range (n := x.length) rfl (by k_asm) (by k_asm) (by assumption) (small_one (by decide) (by decide) (by omega) (by omega)) (by rw [PyProof.Rows.rangeSize_nat]; omega) (Nat.le_trans h60 (Nat.le_of_ble_eq_true rfl)) ?_
    intro g9
    refine each_restT (tellsP x i) (fun j y => ∃ t, y = .str (sign x j) t) trivial ?_ ?_ ?_
    · intro j v I oI C oC D m₂ ys h tk E' hjn hv hC hx9 F9 N9
      rw [Int.zero_add] at hv
      obtain ⟨tv, rfl⟩ := hv
      k_steps
    · intro j v I oI C oC D m₂ ys h tk E' hjn hp9 hv hC hx9 F9 N9
      rw [Int.zero_add] at hv
      obtain ⟨tv, rfl⟩ := hv
      k_steps
    intro ys hl hr
    have hsT : StrsAre ys (tells x i) := strs_of hl hr
    clear hr
    intro D9 h9 tk9 F9 N9 off9
    clear off9
    k_steps
  intro ys hl hr
  have hpT := fun (t1 t2 t3 t4 : Tok) => told_pair (t1 := t1) (t2 := t2) (t3 := t3) (t4 := t4) hl hr
  clear hr
  intro D9 h9 tk9 F9 N9 off9
  clear off9
  k_steps
  refine stop_in ?_
  refine eq_lists (isl (by assumption) (by k_mem)) (isl (by assumption) (by k_mem)) (hpT _ _ _ _) (by ktr_units) ?_
  dsimp only
  try k_fold
  k_steps
  exact ret_pure (nw := []) hret (by k_asm) F N (by assumption) (by assumption) (PyProof.Rows.News.nil (L := (0 : Nat))) ⟨rfl, rfl⟩
end Mine
end

section
open PySem PySem.W PySem.Calls PySem.Spec PyProof.Rows
namespace Mine
theorem isl' {h₀ h : Heap} {L a : Addr} {its : Array Value} {n : Nat} {news : List (Addr × Obj)} (N : News h₀ L h news) (hm : (a, ({ cls := .type "list", data := .seq its n } : Obj)) ∈ news) : h.IsList a its := ⟨_, (N _ hm).1, rfl, _, rfl⟩
theorem piece11 (n : Int) : (pieceF n).length ≤ 11 := piece_app n
theorem join_len : ∀ l : List Str, (∀ s ∈ l, s.length ≤ 11) → (Str.join (Str.ofString "") l).length ≤ 11 * l.length
  | [], _ => by show (Str.empty).length ≤ _; exact Nat.zero_le _
  | [a], h => by
    have := h a List.mem_cons_self
    show a.length ≤ _
    simpa using this
  | a :: b :: r, h => by
    have h1 := h a List.mem_cons_self
    have h2 := join_len (b :: r) fun s hs => h s (List.mem_cons_of_mem _ hs)
    show (a ++ Str.ofString "" ++ Str.join (Str.ofString "") (b :: r)).length ≤ _
    rw [Str.length_append, Str.length_append]
    have : (Str.ofString "").length = 0 := by decide
    simp only [List.length_cons] at h2 ⊢
    omega
theorem take4 (w : List Int) : (List.take 4 (w ++ [22, 33, 12, 28])).length = 4 := by
  rw [List.length_take, List.length_append]
  simp only [List.length_cons, List.length_nil]
  omega
theorem pieces_of : ∀ {ks : List Int} {ys : List Value}, ys.length = ks.length → (∀ (i : Nat) (y : Value), ys[i]? = some y → ∃ t, y = .str (pieceF (ks.getD i 0)) t) → StrsAre ys (ks.map pieceF)
  | [], ys, hl, _ => by rw [List.length_eq_zero_iff.mp hl]; exact .nil
  | k :: ks, [], hl, _ => by simp at hl
  | k :: ks, y :: ys, hl, h => by
    obtain ⟨t, rfl⟩ := h 0 y rfl
    exact .cons _ t (pieces_of (ks := ks) (ys := ys) (by simpa using hl) fun n z hz => h (n + 1) z (by simpa using hz))
theorem sums11 : ∀ (ks : List Int), ((ks.map pieceF).map (·.length)).sum ≤ 11 * ks.length
  | [] => Nat.le_refl _
  | k :: ks => by
    have := sums11 ks
    have := piece11 k
    simp only [List.map_cons, List.sum_cons, List.length_cons]
    omega
section
variable {prog : Program} {w : World} {A : Around} {E : Value → Shared → Prop} {s : Shared}
theorem join_law {D : Addr} {ys : List Value} {ks : List Int} {t : Tok} {Q : Value → Shared → Prop} (hi : StrsAre ys (ks.map pieceF)) (h4 : ks.length = 4) (hl : s.heap.IsList D ys.toArray)
    (h : ∀ (J : Str) t' k, J.length ≤ 44 → Q (.str J t') { s with toks := k }) : wpAny (model prog w) A (call (.builtin "str.join") [.str (Str.ofString "") t, .ref D]) Q E s := by
  refine join_listC hl hi (Nat.le_of_ble_eq_true rfl) ?_ ?_
  · have := sums11 ks
    rw [List.length_map]
    omega
  · intro t' k
    refine h _ t' k ?_
    have e : Txt.join (Str.ofString "") (ks.map pieceF) = Str.join (Str.ofString "") (ks.map pieceF) := StrLaws.glued_eq_join _ _
    rw [e]
    have := join_len (ks.map pieceF) (by intro s hs; obtain ⟨k, _, rfl⟩ := List.mem_map.mp hs; exact piece11 k)
    rw [List.length_map] at this
    omega
theorem add_law {J : Str} {t u : Tok} {Q : Value → Shared → Prop} (hJ : J.length ≤ 44) (h : ∀ (X : Str) t' tk, 1 ≤ X.length → X.length ≤ 60 → Q (.str X t') { s with toks := tk }) : wpAny (model prog w) A (binaryOp .Add (.str (Str.ofString "a") t) (.str J u)) Q E s := by
  have l1 : (Str.ofString "a").length = 1 := by decide
  refine PyProof.Rows.add_str (fun t' tk => ?_) (Nat.le_trans (m := 200) (by omega) (Nat.le_of_ble_eq_true rfl))
  exact h _ t' tk (by rw [Str.length_append]; omega) (by rw [Str.length_append]; omega)
theorem front_len {X : Str} (h : 1 ≤ X.length) : 1 ≤ (Txt.slice X none (some (((X.length : Nat) : Int).fdiv 2 + 1))).length := by
  have e : ((X.length : Nat) : Int).fdiv 2 = ((X.length / 2 : Nat) : Int) := by rw [Int.fdiv_eq_ediv_of_nonneg _ (by decide)]; omega
  rw [e]
  show 1 ≤ (StrLaws.sliceText X none (some (((X.length / 2 : Nat) : Int) + 1))).length
  have hx : X.cps.toList.length = X.length := Array.length_toList
  rw [StrLaws.sliceText_to ⟨by omega, by omega⟩]
  show 1 ≤ (((X.cps.toList.drop 0).take ((((X.length / 2 : Nat) : Int) + 1) - 0).toNat).toArray).size
  rw [List.size_toArray, List.length_take, List.drop_zero, hx]
  omega
end
theorem tellers_at {i : Nat} {v : Value} (h : (#[.ref 77, .ref 70, .ref 84, .ref 92, .ref 63] : Array Value)[i]? = some v) : v = .ref 77 ∨ v = .ref 70 ∨ v = .ref 84 ∨ v = .ref 92 ∨ v = .ref 63 := by
  match i, h with
  | 0, h => exact .inl (Option.some.inj h).symm
  | 1, h => exact .inr (.inl (Option.some.inj h).symm)
  | 2, h => exact .inr (.inr (.inl (Option.some.inj h).symm))
  | 3, h => exact .inr (.inr (.inr (.inl (Option.some.inj h).symm)))
  | 4, h => exact .inr (.inr (.inr (.inr (Option.some.inj h).symm)))
  | i + 5, h => simp at h
end Mine
end

section
open PySem PySem.W PySem.Calls PySem.Spec PyProof.Rows
namespace Mine
/-- «raise X('text')», X an own exception of the text's top, in any frame of a def: one with cells too -/
theorem raise_text {prog : Program} {w : World} {A : Around} {E : Value → Shared → Prop} {s : Shared} {Q : Flow → Shared → Prop} {env : Env} {h₀ : Heap} {L : Addr} {m mg : Str → Option Value}
    {x txt : Str} {C : Addr} {bm : List Value} {B newId initId : String} {k : Nat} {p np cpos pos : Pos}
    (F : Fr h₀ L s.heap m) (hg : h₀.Ns mainGlobals mg) (O : OwnCls x C bm newId mg h₀) (FB : ExcBaseFacts B newId initId bm) (hh : A.handled = none)
    (hge : env.globals = mainGlobals) (hk : env.scope.kind = .function) (hx : env.kindOf x = some .globalImplicit) (hd : (x == ("__debug__" : Str)) = false)
    (h : ∀ h' e, Heap.MadeExcOf s.heap h' e (.ref C) [.str txt s.toks] → E (.ref e) { s with heap := h', toks := s.toks + 1 }) :
    wpAny (model prog w) A (exec (.Raise (some (.Call (.Name x np) [.Constant (.str txt) k p] [] cpos)) none pos) env) Q E s := by
  obtain ⟨hb, tl, N, nm, q, bs, hdct, sn, sub, ab, col, dd, k0, k1, k2, k3, k5, mN, hC, hN, hni, T⟩ := O
  have up : ∀ b o, h₀.get? b = some o → s.heap.get? b = some o := F.keep
  refine wpAny_Raise_call_subT (C := C) (nm := nm) (q := q) (N := N) (bs := bs) (bm := tl) (hdct := hdct) (sn := sn) (sub := sub) (ab := ab) (col := col) (dd := dd) (k0 := k0) (k1 := k1) (k2 := k2) (k3 := k3) (k5 := k5) FB (mN := mN) (T.hasType FB.hasBase) hh rfl hni ?_
  refine Calls.Name_function_global hk hx (Calls.loadGlobal_global (by rw [hge]; exact hg.keeps up) hb ⟨rfl, ?_⟩) hd
  refine Calls.evalArgs_plain ?_
  refine spliced_more (Calls.Constant_str (spliced_none ?_)) rfl
  exact ⟨rfl, Nat.le_of_ble_eq_true rfl, up _ _ hC, hN.keeps up, T.keeps up, h⟩
/-- what leaves a def's frame, one with cells too, when it raises -/
theorem leave_text {M : Model} {A : Around} {E : Value → Shared → Prop} {s' : Shared} {base g h : Heap} {outer : List Env} {env : Env} {L e : Addr} {m : Str → Option Value} {Q : Unit → Shared → Prop} {news : List (Addr × Obj)} {cls : Value} {vs : List Value}
    (K : Below A base outer g) (hx : Heap.MadeExcOf h s'.heap e cls vs) (F : Fr g L h m) (N : News g L h news) (hf : env.frame = some L) (hke : env.scope.kind = .function)
    (hQ : ∀ h' t, RaisedS base g outer e cls t vs news h' → RaisedK base outer e cls t vs news h' → g.UpToSlots h' → Q () { s' with heap := h' }) :
    wpAny M (A.deeper env) (leaving env (.ref e)) Q E s' := by
  have K' := pushX K F hf hke
  -- the frames that are hidden: this one and those below it
  generalize hfs : (env :: outer).filterMap (·.frame) = fs
  have inFs : ∀ v ∈ (env :: outer), ∀ b, v.frame = some b → b ∈ fs := fun v hv b hb => by rw [← hfs]; exact List.mem_filterMap.mpr ⟨v, hv, hb⟩
  have ofFs : ∀ b, b ∈ fs → b = L ∨ b ∈ outer.filterMap (·.frame) := fun b hb => by
    rw [← hfs, List.filterMap_cons_some hf] at hb
    exact List.mem_cons.mp hb
  have noL : g.get? L = none := kts_self F
  have st : base.StaysIn (hideAll h fs) := fun b o q => by
    refine hideAll_get _ (K'.stays b o q) fun hm => ?_
    rw [← hfs] at hm
    have := (K'.frames.mem hm).1
    rw [q] at this; cases this
  have sg : ∀ b o, g.get? b = some o → b ∉ outer.filterMap (·.frame) → (hideAll h fs).get? b = some o := fun b o q nm => by
    refine hideAll_get _ (F.keep b o q) fun hm => ?_
    rcases ofFs b hm with z | z
    · rw [z, noL] at q; cases q
    · exact nm z
  have hl : ∀ q ∈ news, (hideAll h fs).get? q.1 = some q.2 ∧ g.get? q.1 = none ∧ base.get? q.1 = none := fun q hq => by
    refine ⟨hideAll_get _ (N q hq).1 fun hm => ?_, (N q hq).2.2, fresh_of_stays K.stays (N q hq).2.2⟩
    rcases ofFs _ hm with z | z
    · exact (N q hq).2.1 z
    · obtain ⟨o, ho, _⟩ := (K.frames.mem z).2
      rw [(N q hq).2.2] at ho; cases ho
  refine wpAny_leaves_madeW K'.stack hf (fun b o q => of_hideAll _ q) (funFrames_hide K'.frames inFs) hx fun h' t x1 x2 x3 x4 => ?_
  have R : RaisedS base g outer e cls t vs news h' := ⟨⟨_, st, sg, hl, x1, x3⟩, x2⟩
  exact hQ h' t R R.toK (((Heap.UpToSlots.of_keeps F.keep).trans (Heap.UpToSlots.of_keeps hx.keeps)).trans x4)
end Mine
end

section
open PySem PySem.W PySem.Calls PySem.Spec PyProof.Rows
namespace Mine
structure StopL : Prop where mk ::
local macro_rules | `(tactic| walk_at "eval ListComp") => `(tactic| ((with_reducible rename StopL => mq9); refine stop_out ?_))
local macro_rules | `(tactic| walk_at "CompSrc") => `(tactic| ((with_reducible rename StopL => mq9); refine stop_out ?_))
local macro_rules | `(tactic| walk_at "CompSrcT") => `(tactic| ((with_reducible rename StopL => mq9); refine stop_out ?_))
local macro_rules | `(tactic| walk_at "call ref") => `(tactic| (k_here; (with_reducible show wpAny _ _ (call (Value.ref 131) [Value.int _ _]) _ _ _); k_dflt (refine' use1 piece_spec ?k1 ?k2 ?k3 ?k4 ?k5 ?kK ?kp ?kd ?ku ?_; (case k1 => k_asm); (case k2 => k_asm); (case k3 => k_asm); (case k4 => k_asm); (case k5 => k_asm); (case kK => first | exact rfl | assumption); (case kp => exact trivial); (case kd => ktr_room); (case ku => ktr_units)); intro v9 nw9 h9 tk9 F9 N9 kp9 hne9 ho9; (obtain ⟨e9, t9, e8⟩ := ho9; subst e9; subst e8); (try simp only [List.nil_append] at N9); (try dsimp only); (try k_fold)))
local macro_rules | `(tactic| walk_at "call ref") => `(tactic| (k_here; (with_reducible show wpAny _ _ (call (Value.ref 164) [Value.str _ _]) _ _ _); k_dflt (refine' use1 (agree_spec (by first | assumption | exact front_len (by assumption)) (by first | assumption | exact Nat.le_trans (Txt.slice_le _ _ _) (by assumption))) ?k1 ?k2 ?k3 ?k4 ?k5 ?kK ?kp ?kd ?ku ?_; (case k1 => k_asm); (case k2 => k_asm); (case k3 => k_asm); (case k4 => k_asm); (case k5 => k_asm); (case kK => first | exact rfl | assumption); (case kp => exact trivial); (case kd => ktr_room); (case ku => ktr_units)); intro v9 nw9 h9 tk9 F9 N9 kp9 hne9 ho9; (obtain ⟨e9, e8⟩ := ho9; subst e9; subst e8); (try simp only [List.nil_append] at N9); (try dsimp only); (try k_fold)))
local macro_rules | `(tactic| walk_at "call builtin:str.join") => `(tactic| ((with_reducible rename StrsAre _ _ => hs9); k_here; k_dflt (refine join_law hs9 (by assumption) (isl' (by assumption) (by k_mem)) ?_); clear hs9; intro J9 t9 tk9 hJ9; (try dsimp only); (try k_fold)))
local macro_rules | `(tactic| walk_at "binaryOp Add str str") => `(tactic| (k_here; k_dflt (refine add_law (by assumption) ?_); intro X9 t9 tk9 hX1 hX60; (try dsimp only); (try k_fold)))
local macro_rules | `(tactic| walk_at "ElEnd") => `(tactic| (k_dflt (refine' elEnd_of (by k_asm) (by k_asm) ?hs ?_; (case hs => first | exact fun _ hp => hp | (intro p hp; first | exact List.mem_cons_of_mem _ hp | exact List.mem_cons_of_mem _ (List.mem_cons_of_mem _ hp))))))
local macro_rules | `(tactic| walk_at "TstEnd") => `(tactic| (k_dflt (refine' tstEnd_of (by k_asm) (by k_asm) ?hs ?_; (case hs => first | exact fun _ hp => hp | (intro p hp; first | exact List.mem_cons_of_mem _ hp | exact List.mem_cons_of_mem _ (List.mem_cons_of_mem _ hp))))))
local macro_rules | `(tactic| walk_at "call ref") => `(tactic| (k_here; (with_reducible show wpAny _ _ (call (Value.ref 159) [Value.ref _]) _ _ _); k_dflt (refine wpAny_call ?_; kts_go)))
local macro_rules | `(tactic| walk_at "exec Try cons cons nil nil") => `(tactic| (refine wpAny_Try_except ?_))
local macro_rules | `(tactic| walk_at "call builtin:math.fsum cons nil") => `(tactic| (k_here; k_dflt (refine' call_fsum (vs := []) (ns := []) ?k1 ?k2 ?k3 ?k4 .nil (fun _ => by rw [List.take_nil]; decide) (fun _ h => nomatch h) ?_; (case k1 => rfl); (case k2 => k_asm); (case k3 => k_asm); (case k4 => exact isl' (by assumption) (by k_mem))); intro r9 h9 tk9 t9 hr9 F9 N9 kp9; clear hr9 kp9; (try dsimp only); (try k_fold)))
local macro_rules | `(tactic| walk_at "exec Raise some none") => `(tactic| (k_here; (with_reducible show wpAny _ _ (exec _ (envOfC _ _ _ _ _)) _ _ _); k_dflt (refine' raise_text ?F ?g ?O PySem.F.excBase_ValueError ?h ?a ?b ?c ?d ?_; (case F => k_asm); (case g => exact TopRead.g (by k_asm)); (case O => exact own_of_in (by k_asm) (by k_asm) (by k_is) (by k_exc)); (case h => first | rfl | assumption); (case a => rfl); (case b => rfl); (case c => rfl); (case d => decide); k_whole); intro h' e' x'; (try dsimp only)))
local macro_rules | `(tactic| walk_at "leaving ref") => `(tactic| (k_here; (with_reducible show wpAny _ _ (leaving (envOfC _ _ _ _ _) _) _ _ _); k_dflt (refine' leave_text ?k1 ?k0 ?k2 ?k3 rfl rfl ?_; (case k0 => assumption); (case k2 => assumption); (case k1 => assumption); (case k3 => k_asm); k_whole); intro h' t' S' R' U'; (try dsimp only at S' R' U' ⊢)))
local macro_rules | `(tactic| walk_at "subscriptTail BinOp") => `(tactic| (k_here; k_dflt (refine kba_turn (value' := PySem.Expr.Name (PySem.Str.ofString "_") ⟨0, 0, 0, 0⟩) (fun _ => rfl) ?_)))
theorem hh : PySem.Challenge.rw_rw0061_01.Holds := hd (by
  k_with_none
  k_go0
  all_goals try k_fold
  have mq : StopL := ⟨⟩
  k_steps
  refine stop_in ?_
  (refine LCg.ListComp_U (F₀ := by k_asm) (by with_unfolding_all rfl) (by decide) (by rfl) (by decide) (by rfl) ?_)
  k_steps
  refine stop_in ?_
  dsimp only
  rename IntsAre _ (List.take _ _) => hi4
  obtain ⟨ks, hk4, hiK⟩ : ∃ ks : List Int, ks.length = 4 ∧ IntsAre _ ks := ⟨_, take4 _, hi4⟩
  have hlen4 := hiK.length
  rw [hk4] at hlen4
  refine LCg.CompSrc.ledger rfl (by k_asm) (by k_asm) (by k_mem) (by rw [List.size_toArray, hlen4]; exact Nat.le_of_ble_eq_true rfl) ?_
  intro g9
  refine each_rest (fun i y => ∃ t, y = .str (pieceF (ks.getD i 0)) t) (.inr ⟨_, by k_mem, rfl, _, rfl⟩) ?_ ?_
  · intro i v I oI C oC D m₂ ys h tk E' hin hv hC hx9 F9 N9
    obtain ⟨tv, rfl⟩ := int_getD hiK hv
    k_steps
  intro ys hl hr
  have hsT := pieces_of (by rw [hl, List.size_toArray, hiK.length]) hr
  clear hr
  intro D9 h9 tk9 F9 N9 off9
  clear off9
  k_steps
  refine stop_in ?_
  (refine LCt.ListComp_T (F₀ := by k_asm) (by with_unfolding_all rfl) (by decide) (by rfl) (by decide) (by rfl) ?_)
  k_steps
  refine stop_in ?_
  refine LCt.CompSrcT.ledger rfl (by k_asm) (by k_asm) (by k_mem) (Nat.le_of_ble_eq_true rfl) ?_
  intro g9
  refine each_restT (fun i => false) (fun _ _ => True) (.inr ⟨_, by k_mem, rfl, _, rfl⟩) ?_ ?_ ?_
  · intro i v I oI C oC D m₂ ys h tk E' hin hv hC hx9 F9 N9
    rcases tellers_at hv with rfl | rfl | rfl | rfl | rfl
    · k_steps
      all_goals (exfalso; omega)
    · k_steps
      all_goals (exfalso; omega)
    · k_steps
      all_goals (exfalso; omega)
    · k_steps
      all_goals (exfalso; omega)
    · k_steps
      all_goals (exfalso; omega)
  · intro i v I oI C oC D m₂ ys h tk E' hin hp9 hv hC hx9 F9 N9
    cases hp9
  intro ys hl hr
  have hnil : ys = [] := List.length_eq_zero_iff.mp (by rw [hl]; simp)
  subst hnil
  clear hr hl
  intro D9 h9 tk9 F9 N9 off9
  clear off9
  k_steps)
end Mine
end

theorem PySem.Challenge.cw_rw0061_01_holds : PySem.Challenge.rw_rw0061_01.Holds := by
  exact Mine.hh
